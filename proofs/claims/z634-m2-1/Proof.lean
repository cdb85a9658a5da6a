import JvmDerived
import JvmDerived.Pilot.@@N@@Statement
import JvmDerived.Pilot.@@N@@Code
set_option linter.unusedVariables false
set_option linter.unusedSimpArgs false
namespace Jvm.Pilot.@@N@@
open Jvm Jvm.ClassFile Sem Op Lib Jvm.Free Jvm.Stand Jvm.LawKit Jvm.RoadKit Bundle Jvm.Pilot.@@N@@.Jvm.D
section Own
variable {p : Program} {l : Launch} {e : Env} {R : Room} {s : State} {m : MethodId} {args : Array Value} {below : List Frame} {meth : Method} {c : Code} {T : State} {locs : List Loc} {cells slots : Nat} {Z : State} {a0 : Array Value} {h h' : Heap}
theorem own_hb {c : ClassFile.Code} {code : ByteArray} (h : c.code = code) {pc : Nat} {r : Except ClassFile.DecodeError (ClassFile.Instr × Nat)} (h2 : ClassFile.decode code pc = r) : ClassFile.decode c.code pc = r := h ▸ h2
/-- from S the run comes to an end of the method of which QQ holds -/
def own_Go (p : Program) (e : Env) (below : List Frame) (S : State) (QQ : Outcome → State → Prop) : Prop :=
  ∃ s₂ o, Steps p.tables e below S s₂ ∧ s₂.status = .running ∧ Ended s₂ below o ∧ QQ o s₂
theorem own_Go.of {S S' : State} {QQ : Outcome → State → Prop} (h : ∀ t, Steps p.tables e below S' t → Steps p.tables e below S t) (g : own_Go p e below S' QQ) : own_Go p e below S QQ := by
  obtain ⟨a, b, h1, h2⟩ := g
  exact ⟨a, b, h _ h1, h2⟩
/-- how a walked body ends: it returns v, with Q of the value, the heap and the places written -/
def own_End (s : State) (Q : Option Value → Heap → List Loc → Prop) (C K : Nat) : Outcome → State → Prop :=
  fun o U' => ∃ v L, o = .returned v ∧ Q v U'.heap L ∧ FrameEnd s o U' L C K
/-- the contract of a body, as RoadKit.backOf takes it -/
abbrev own_Met (l : Launch) (Z : State) (h0 : Heap) (y : MethodName) (bytes : ByteArray) (maxL : Nat) (ret : Option FieldType) (ws : List Jvm.Cond) (rm : Room) (as' : Array Value) (Q : Option Value → Heap → List Loc → Prop) : Prop :=
  MetFree l y (head1 (Jvm.Cond.code y bytes maxL ret :: ws) rm) (fun a U => a = as' ∧ Z.Warmed39 U.vm ∧ U.heap = h0) (fun _ _ _ _ _ => True) (fun _ U o U' => ∃ v L, o = .returned v ∧ Q v U'.heap L ∧ FrameEnd U o U' L rm.cells rm.slots)
theorem own_enter {h0 : Heap} {y : MethodName} {bytes : ByteArray} {maxL : Nat} {ret : Option FieldType} {ws : List Jvm.Cond} {rm : Room} {as' : Array Value} {Q : Option Value → Heap → List Loc → Prop} (hpl : plainFor y = true)
    (body : ∀ (p : Program) (e : Env) (s : State) (m : MethodId) (below : List Frame) (meth : Method) (c : Code) (T0 : State), Stand p l e rm s m as' below meth c T0 [] 0 0 → p.tables.exec = Jvm.exec → c.code = bytes → c.maxLocals = maxL → meth.sig.returnType = ret → meth.locks = false → s.vm.findClass y.cls = some m.cls → meth.name = y.name → Z.Warmed39 s.vm → T0.heap = h0 →
      own_Go p e below (T0.setTop (entryFrame m as' maxL)) (own_End s Q rm.cells rm.slots)) : own_Met l Z h0 y bytes maxL ret ws rm as' Q := by
  refine MetFree.of_bodySF hpl hisR ?_
  intro p e s m args below meth c s₁ Bd hml0 hP hK
  obtain ⟨rfl, hZ, hh⟩ := hP
  exact body p e s m below meth c s₁ (Stand.of_body Bd) Bd.exec Bd.bytes hml0 Bd.returns Bd.notSynchronized (findClass_of_methodNamed Bd.named) (name_of_methodNamed Bd.named Bd.method).1 hZ (by rw [← hh, Bd.state]; rfl)
theorem own_mono (X : Stand p l e R s m args below meth c T locs cells slots) {c' k' : Nat} (hc : cells ≤ c') (hk : slots ≤ k') : Stand p l e R s m args below meth c T locs c' k' :=
  ⟨X.admits, X.cas, X.clock, X.frames, X.room, X.hears, X.method, X.code, X.here, X.tail, X.warmed, X.limits, X.bytes, X.same.mono hc hk⟩
theorem own_leave (X : Stand p l e R s m args below meth c T locs cells slots) (hlk : meth.locks = false) {v : Option Value} {Q : Option Value → Heap → List Loc → Prop} {C K : Nat} {g : JFrame} (hv : meth.sig.returnType = none → v = none)
    (st : ∀ fs, (∀ (f : JFrame) (acts : List Action), f.method = m → f.locked = none → f.entered = [] → (doReturn e (T.setTop f) acts v).1 = T.setFrames fs) → Steps p.tables e below (T.setTop g) (T.setFrames fs))
    (eT : T.heap = h) (hQ : Q v h locs) (hc : cells ≤ C) (hk : slots ≤ K) : own_Go p e below (T.setTop g) (own_End s Q C K) := by
  obtain ⟨fs, hr, hrun, hended, hW, hsame⟩ := X.leave (v := v) hv hlk
  subst eT
  exact ⟨_, _, st fs hr, hrun, hended, v, locs, rfl, hQ, ⟨_, rfl⟩, hW, hsame.mono hc hk⟩
theorem own_retI (X : Stand p l e R s m args below meth c T locs cells slots) (hx : p.tables.exec = Jvm.exec) (hlk : meth.locks = false) {pc : Nat} {Ls : Array Slot} {z : Int32} {rest : List Value} {Q : Option Value → Heap → List Loc → Prop} {C K : Nat} (hret : meth.sig.returnType = some .int) (hd : decode c.code pc = .ok (.ireturn, 1))
    (eT : T.heap = h) (hQ : Q (some (.int z)) h locs) (hc : cells ≤ C) (hk : slots ≤ K) : own_Go p e below (T.setTop (mkF m pc Ls (.int z :: rest))) (own_End s Q C K) := by
  refine own_leave X hlk (fun q => by rw [hret] at q; cases q) (fun fs hl => ?_) eT hQ hc hk
  have hm' : T.vm.method? m = some meth := X.method'
  have hn : narrow .int (.int z) = .int z := rfl
  show Steps p.tables e below (T.setTop { method := m, pc := pc, locals := Ls, stack := _ :: rest, locked := none }) _
  jvm_step X.here [X.here.top, hx, hd, hm', hret, hn]
  first | (intro acts; rw [hl _ acts rfl rfl rfl]) | rw [hl _ _ rfl rfl rfl]
  exact Steps.refl _
theorem own_retN (X : Stand p l e R s m args below meth c T locs cells slots) (hx : p.tables.exec = Jvm.exec) (hlk : meth.locks = false) {pc : Nat} {Ls : Array Slot} {z : Int32} {t : FieldType} {rest : List Value} {Q : Option Value → Heap → List Loc → Prop} {C K : Nat} (hret : meth.sig.returnType = some t) (ht : t = .boolean ∨ t = .byte ∨ t = .char ∨ t = .short) (hd : decode c.code pc = .ok (.ireturn, 1))
    (eT : T.heap = h) (hQ : Q (some (.int (nar t z))) h locs) (hc : cells ≤ C) (hk : slots ≤ K) : own_Go p e below (T.setTop (mkF m pc Ls (.int z :: rest))) (own_End s Q C K) :=
  own_leave X hlk (fun q => by rw [hret] at q; cases q) (fun fs hl => retN X hx hret ht hd hl) eT hQ hc hk
theorem own_retV (X : Stand p l e R s m args below meth c T locs cells slots) (hx : p.tables.exec = Jvm.exec) (hlk : meth.locks = false) {pc : Nat} {Ls : Array Slot} {Q : Option Value → Heap → List Loc → Prop} {C K : Nat} (hret : meth.sig.returnType = none) (hd : decode c.code pc = .ok (.return_, 1))
    (eT : T.heap = h) (hQ : Q none h locs) (hc : cells ≤ C) (hk : slots ≤ K) : own_Go p e below (T.setTop (mkF m pc Ls [])) (own_End s Q C K) :=
  own_leave X hlk (fun _ => rfl) (fun fs hl => X.returnOut hx hret hd hl) eT hQ hc hk
theorem own_retJ (X : Stand p l e R s m args below meth c T locs cells slots) (hx : p.tables.exec = Jvm.exec) (hlk : meth.locks = false) {pc : Nat} {Ls : Array Slot} {z : Int64} {Q : Option Value → Heap → List Loc → Prop} {C K : Nat} (hret : meth.sig.returnType = some .long) (hd : decode c.code pc = .ok (.lreturn, 1))
    (eT : T.heap = h) (hQ : Q (some (.long z)) h locs) (hc : cells ≤ C) (hk : slots ≤ K) : own_Go p e below (T.setTop (mkF m pc Ls [.long z])) (own_End s Q C K) :=
  own_leave X hlk (fun q => by rw [hret] at q; cases q) (fun fs hl => X.lreturnOut hx hret hd hl) eT hQ hc hk
theorem own_retA (X : Stand p l e R s m args below meth c T locs cells slots) (hx : p.tables.exec = Jvm.exec) (hlk : meth.locks = false) {pc : Nat} {Ls : Array Slot} {v : Value} {t : FieldType} {rest : List Value} {Q : Option Value → Heap → List Loc → Prop} {C K : Nat} (hret : meth.sig.returnType = some t) (ht : t.isReference = true) (hv : v.isRef = true) (hd : decode c.code pc = .ok (.areturn, 1))
    (eT : T.heap = h) (hQ : Q (some v) h locs) (hc : cells ≤ C) (hk : slots ≤ K) : own_Go p e below (T.setTop (mkF m pc Ls (v :: rest))) (own_End s Q C K) := by
  refine own_leave X hlk (fun q => by rw [hret] at q; cases q) (fun fs hl => ?_) eT hQ hc hk
  have hm' : T.vm.method? m = some meth := X.method'
  show Steps p.tables e below (T.setTop { method := m, pc := pc, locals := Ls, stack := _ :: rest, locked := none }) _
  jvm_step X.here [X.here.top, hx, hd, hm', hret, ht, hv]
  first | (intro acts; rw [hl _ acts rfl rfl rfl]) | rw [hl _ _ rfl rfl rfl]
  exact Steps.refl _
/-! an array whose place i holds f i -/
def own_Ar (Z : State) (h : Heap) (a : Addr) (ty : FieldType) (n : Nat) (f : Nat → Value) : Prop :=
  n < 2 ^ 31 ∧ ∃ c : Cell, Arr Z h a c ty ∧ c.slots.size = n ∧ ∀ i, i < n → c.slots[i]? = some (f i) ∧ fits ty (f i) = true
def own_up (f : Nat → Value) (k : Nat) (v : Value) : Nat → Value := fun i => if i = k then v else f i
def own_I (g : Nat → Int32) : Nat → Value := fun j => .int (g j)
def own_set (g : Nat → Int32) (k : Nat) (x : Int32) : Nat → Int32 := fun j => if j = k then x else g j
theorem own_upI {g : Nat → Int32} {k : Nat} {x : Int32} : own_up (own_I g) k (.int x) = own_I (own_set g k x) := by
  funext j
  unfold own_up own_I own_set
  by_cases q : j = k
  · rw [if_pos q, if_pos q]
  · rw [if_neg q, if_neg q]
section Arrays
variable {a b : Addr} {ty : FieldType} {n k : Nat} {f : Nat → Value} {v : Value} {ws : List Addr} {sl : Nat} {j : Int32}
theorem own_Ar.lt (F : own_Ar Z h a ty n f) : a < h.size := by obtain ⟨_, c, A, _⟩ := F; exact A.lt
theorem own_Ar.ext (F : own_Ar Z h a ty n f) (E : Ext h h') : own_Ar Z h' a ty n f := by obtain ⟨q, c, A, r⟩ := F; exact ⟨q, c, A.ext E, r⟩
theorem own_Ar.other (F : own_Ar Z h b ty n f) (W : Wr h h' a sl v) (q : b ≠ a) : own_Ar Z h' b ty n f := by obtain ⟨q0, c, A, r⟩ := F; exact ⟨q0, c, A.other W q, r⟩
theorem own_Ar.keep (F : own_Ar Z h a ty n f) (K : Keep h h' ws) (q : a ∉ ws) : own_Ar Z h' a ty n f := by obtain ⟨q0, c, A, r⟩ := F; exact ⟨q0, c, ⟨K.2.1 a c A.1 q, A.2⟩, r⟩
theorem own_Ar.eqv {g : Nat → Value} (F : own_Ar Z h a ty n f) (q : ∀ i, i < n → f i = g i) : own_Ar Z h a ty n g := by
  obtain ⟨q0, c, A, r1, r2⟩ := F; exact ⟨q0, c, A, r1, fun i hi => by rw [← q i hi]; exact r2 i hi⟩
theorem own_Ar.eqvI {g g' : Nat → Int32} (F : own_Ar Z h a ty n (own_I g)) (q : ∀ i, i < n → g i = g' i) : own_Ar Z h a ty n (own_I g') := F.eqv fun i hi => by show Value.int _ = Value.int _; rw [q i hi]
theorem own_clamp (hk : k < 2 ^ 31) : (Int32.ofNat k).toNatClampNeg = k ∧ ¬ Int32.ofNat k < 0 := by
  have e : (Int32.ofNat k).toInt = (k : Int) := Int32.toInt_ofNat_of_lt hk
  refine ⟨?_, ?_⟩
  · show (Int32.ofNat k).toInt.toNat = k
    rw [e]; rfl
  · rw [Int32.lt_iff_toInt_lt, e]
    show ¬ ((k : Int) < 0)
    omega
theorem own_inb {cl : Cell} (S : cl.slots.size = n) (hn : n < 2 ^ 31) (e : j = Int32.ofNat k) (hk : k < n) : ¬ (j < 0 ∨ cl.slots.size ≤ j.toNatClampNeg) := by
  subst e
  obtain ⟨e1, e2⟩ := own_clamp (k := k) (by omega)
  rw [e1, S]
  rintro (q | q)
  · exact e2 q
  · omega
theorem own_Ar.get (F : own_Ar Z h a ty n f) (q : j = Int32.ofNat k ∧ k < n) : ∃ cl : Cell, Arr Z h a cl ty ∧ ¬ (j < 0 ∨ cl.slots.size ≤ j.toNatClampNeg) ∧ cl.slots[j.toNatClampNeg]? = some (f k) := by
  obtain ⟨hn, c, A, S, H⟩ := F
  refine ⟨c, A, own_inb S hn q.1 q.2, ?_⟩
  rw [q.1, (own_clamp (k := k) (by omega)).1]
  exact (H k q.2).1
theorem own_Ar.len (F : own_Ar Z h a ty n f) : ∃ cl : Cell, Arr Z h a cl ty ∧ cl.slots.size.toInt32 = Int32.ofNat n := by
  obtain ⟨hn, c, A, S, H⟩ := F
  refine ⟨c, A, ?_⟩
  rw [S]
theorem own_Ar.put (F : own_Ar Z h a ty n f) (q : j = Int32.ofNat k ∧ k < n) : ∃ cl : Cell, Arr Z h a cl ty ∧ ¬ (j < 0 ∨ cl.slots.size ≤ j.toNatClampNeg) ∧ ∀ {v : Value} {h' : Heap}, fits ty v = true → Wr h h' a j.toNatClampNeg v → own_Ar Z h' a ty n (own_up f k v) := by
  obtain ⟨hn, c, A, S, H⟩ := F
  refine ⟨c, A, own_inb S hn q.1 q.2, fun {v h'} hv W => ⟨hn, _, A.same W, by rw [sz_set]; exact S, fun i hi => ?_⟩⟩
  rw [q.1, (own_clamp (k := k) (by omega)).1]
  by_cases u : i = k
  · subst u
    simp [own_up, Cell.setSlot, S, hi, hv]
  · have u' : ¬ k = i := fun z => u z.symm
    simp only [own_up, u, if_false, Cell.setSlot, Array.getElem?_setIfInBounds, u']
    exact H i hi
theorem own_newP (X : Stand p l e R s m args below meth c T locs cells slots) (hx : p.tables.exec = Jvm.exec) (hZ : Z.Warmed39 s.vm) {aty : ArrayType} (w : (Cond.arrayClass (newarray.typeOf aty)).before a0 Z = true) (eT : T.heap = h) {g : JFrame} (hg : g.method = m) (hd : decode c.code g.pc = .ok (.newarray aty, 2)) {z : Int32} {rest : List Value} (hs : g.stack = .int z :: rest)
    {n cap : Nat} (hz : z = Int32.ofNat n) (hn : n ≤ cap) (hb : cap * 8 ≤ 536870912) (hc : cells + 1 ≤ R.cells) (hl : slots + cap ≤ R.slots) :
    ∃ T' h', Stand p l e R s m args below meth c T' locs (cells + 1) (slots + cap) ∧ T'.heap = h' ∧ Ext h h' ∧ own_Ar Z h' h.size (newarray.typeOf aty) n (fun _ => defaultValue (newarray.typeOf aty)) ∧
      ∀ target, Steps p.tables e below (T'.setTop { g with pc := g.pc + 2, stack := .ref h.size :: rest }) target → Steps p.tables e below (T.setTop g) target := by
  obtain ⟨e1, e2⟩ := own_clamp (k := n) (by omega)
  subst hz
  obtain ⟨T', h', cA, X', e', E, A, st⟩ := newP X hx hZ w eT hg hd hs e2 (cap := cap) (by rw [e1]; exact hn) hb hc hl
  refine ⟨T', h', X', e', E, ⟨by omega, _, A, by rw [sz_new, e1], fun i hi => ⟨?_, by cases aty <;> rfl⟩⟩, st⟩
  simp [newA, e1, hi]
end Arrays
theorem own_st1 {l : Array Slot} {i : Nat} {v : Value} {o : Slot} (hold : l[i]? = some o) (ho : o = .unset ∨ ∃ w, o = .val w ∧ w.category = 1) (hv : v.category = 1) : storeLocals l i v = some (l.setIfInBounds i (.val v)) := XS.store1 hold ho hv
/-- the cell at x stands as it stood -/
def own_Kx (h h' : Heap) (x : Addr) : Prop := h.size ≤ h'.size ∧ ∀ c : Cell, h[x]? = some c → h'[x]? = some c
section Kx
variable {x a : Addr} {h2 : Heap} {sl : Nat} {v : Value} {ws : List Addr}
theorem own_Kx.refl : own_Kx h h x := ⟨Nat.le_refl _, fun _ q => q⟩
theorem own_Kx.ext (K : own_Kx h h' x) (E : Ext h' h2) : own_Kx h h2 x := ⟨Nat.le_trans K.1 E.1, fun c q => E.2 _ _ (K.2 c q)⟩
theorem own_Kx.keep (K : own_Kx h h' x) (K' : Keep h' h2 ws) (q : x ∉ ws) : own_Kx h h2 x := ⟨Nat.le_trans K.1 K'.1, fun c r => K'.2.1 _ _ (K.2 c r) q⟩
theorem own_Kx.wr (K : own_Kx h h' x) (W : Wr h' h2 a sl v) (q : x ≠ a) : own_Kx h h2 x := K.keep (Keep.of_wr W) (ninS q nin0)
theorem own_Kx.trans (K : own_Kx h h' x) (K' : own_Kx h' h2 x) : own_Kx h h2 x := ⟨Nat.le_trans K.1 K'.1, fun c r => K'.2 _ (K.2 c r)⟩
theorem own_Ar.kx {ty : FieldType} {n : Nat} {f : Nat → Value} (F : own_Ar Z h x ty n f) (K : own_Kx h h' x) : own_Ar Z h' x ty n f := by obtain ⟨q0, c, A, r⟩ := F; exact ⟨q0, c, ⟨K.2 c A.1, A.2⟩, r⟩
theorem own_Ek {C : String} (F : Exa Z h x C) (K : own_Kx h h' x) : Exa Z h' x C := by obtain ⟨cell, k, h1, r⟩ := F; exact ⟨cell, k, K.2 _ h1, r⟩
def own_Lt (h : Heap) (x : Addr) : Prop := x < h.size
theorem own_Lt.lt (q : own_Lt h x) : x < h.size := q
theorem own_Lt.ext (q : own_Lt h x) (E : Ext h h') : own_Lt h' x := Nat.lt_of_lt_of_le q E.1
theorem own_Lt.keep (q : own_Lt h x) (K : Keep h h' ws) : own_Lt h' x := Nat.lt_of_lt_of_le q K.1
theorem own_Lt.wr (q : own_Lt h x) (W : Wr h h' a sl v) : own_Lt h' x := q.keep (Keep.of_wr W)
theorem own_Lt.le (q : own_Lt h x) (K : h.size ≤ h'.size) : own_Lt h' x := Nat.lt_of_lt_of_le q K
theorem own_Lt.kx {y : Addr} (q : own_Lt h x) (K : own_Kx h h' y) : own_Lt h' x := Nat.lt_of_lt_of_le q K.1
end Kx
/-! numbers: small naturals as ints -/
theorem own_toInt {a : Nat} (ha : a < 2 ^ 31) : (Int32.ofNat a).toInt = (a : Int) := Int32.toInt_ofNat_of_lt ha
theorem own_mask (x : Int32) (m : Nat) : ∃ k : Nat, k ≤ m ∧ (x &&& Int32.ofNat m) = Int32.ofNat k := by
  refine ⟨(x.toBitVec.toNat &&& (m % 2 ^ 32)), Nat.le_trans Nat.and_le_right (Nat.mod_le _ _), ?_⟩
  apply Int32.toBitVec_inj.mp
  apply BitVec.eq_of_toNat_eq
  rw [Int32.toBitVec_and, BitVec.toNat_and]
  show _ &&& (BitVec.ofNat 32 m).toNat = (BitVec.ofNat 32 _).toNat
  rw [BitVec.toNat_ofNat, BitVec.toNat_ofNat]
  rw [Nat.mod_eq_of_lt (a := _ &&& _)]
  exact Nat.lt_of_le_of_lt Nat.and_le_right (Nat.mod_lt _ (by decide))
theorem own_ltN {a b : Nat} (ha : a < 2 ^ 31) (hb : b < 2 ^ 31) : Int32.ofNat a < Int32.ofNat b ↔ a < b := by
  rw [Int32.lt_iff_toInt_lt, own_toInt ha, own_toInt hb]; omega
theorem own_eqN' {a b : Nat} (h : a = b) : Int32.ofNat a = Int32.ofNat b := by rw [h]
theorem own_eqN {a b : Nat} (ha : a < 2 ^ 31) (hb : b < 2 ^ 31) : Int32.ofNat a = Int32.ofNat b ↔ a = b := by
  constructor
  · intro h
    have h2 := congrArg Int32.toInt h
    rw [own_toInt ha, own_toInt hb] at h2; omega
  · exact own_eqN'
theorem own_addN (a b : Nat) : Int32.ofNat a + Int32.ofNat b = Int32.ofNat (a + b) := (Int32.ofNat_add a b).symm
theorem own_subN {a b : Nat} (h : b ≤ a) : Int32.ofNat a - Int32.ofNat b = Int32.ofNat (a - b) := by
  have h2 : Int32.ofNat a = Int32.ofNat (a - b) + Int32.ofNat b := by rw [own_addN]; congr 1; omega
  rw [h2, Int32.add_sub_cancel]
theorem own_nzN {a : Nat} (h0 : 0 < a) (ha : a < 2 ^ 31) : Int32.ofNat a ≠ (0 : Int32) := by
  intro h
  have h2 : Int32.ofNat a = Int32.ofNat 0 := h
  rw [own_eqN ha (by decide)] at h2; omega
theorem own_remN {a b : Nat} (ha : a < 2 ^ 31) (hb : b < 2 ^ 31) : (Int32.ofNat a - (Int32.ofNat a / Int32.ofNat b) * Int32.ofNat b) = Int32.ofNat (a % b) := by
  apply Int32.toInt_inj.mp
  have hm : a % b < 2 ^ 31 := Nat.lt_of_le_of_lt (Nat.mod_le _ _) ha
  rw [rem_toInt, own_toInt ha, own_toInt hb, own_toInt hm]
  exact (Int.ofNat_tmod a b).symm
theorem own_bm (x : Int) (h1 : -2147483648 ≤ x) (h2 : x < 2147483648) : x.bmod (2 ^ 32) = x := Int.bmod_eq_of_le (by omega) (by omega)
theorem own_bm64 (x : Int) (h1 : -9223372036854775808 ≤ x) (h2 : x < 9223372036854775808) : x.bmod (2 ^ 64) = x := Int.bmod_eq_of_le (by omega) (by omega)
end Own
section OwnW
variable {p : Program} {l : Launch} {e : Env} {R : Room} {s : State} {vm0 : Vm} {k0 : Nat} {m : MethodId} {args : Array Value} {below : List Frame} {meth : Method} {c : Code} {T : State} {locs : List Loc} {cells slots : Nat} {Z : State} {a0 : Array Value} {h h' : Heap}
/-- the same where a String constant may have been linked meanwhile -/
def own_EndW (s : State) (Q : Option Value → Heap → List Loc → Prop) (C K : Nat) : Outcome → State → Prop :=
  fun o U' => ∃ v L, o = .returned v ∧ Q v U'.heap L ∧ ReturnedEndW s o U' L C K
abbrev own_MetW (l : Launch) (Z : State) (h0 : Heap) (y : MethodName) (bytes : ByteArray) (maxL : Nat) (ret : Option FieldType) (ws : List Jvm.Cond) (rm : Room) (as' : Array Value) (Q : Option Value → Heap → List Loc → Prop) : Prop :=
  MetFree l y (head1 (Jvm.Cond.code y bytes maxL ret :: ws) rm) (fun a U => a = as' ∧ Z.Warmed39 U.vm ∧ U.heap = h0) (fun _ _ _ _ _ => True) (fun _ U o U' => ∃ v L, o = .returned v ∧ Q v U'.heap L ∧ ReturnedEndW U o U' L rm.cells rm.slots)
theorem own_enterW {h0 : Heap} {y : MethodName} {bytes : ByteArray} {maxL : Nat} {ret : Option FieldType} {ws : List Jvm.Cond} {rm : Room} {as' : Array Value} {Q : Option Value → Heap → List Loc → Prop} (hpl : plainFor y = true)
    (body : ∀ (p : Program) (e : Env) (s : State) (m : MethodId) (below : List Frame) (meth : Method) (c : Code) (T0 : State), Stand p l e rm (s.setVm s.vm) m as' below meth c T0 [] 0 0 → p.tables.exec = Jvm.exec → c.code = bytes → c.maxLocals = maxL → meth.sig.returnType = ret → meth.locks = false → (s.setVm s.vm).vm.findClass y.cls = some m.cls → meth.name = y.name → Z.Warmed39 (s.setVm s.vm).vm → T0.heap = h0 →
      own_Go p e below (T0.setTop (entryFrame m as' maxL)) (own_EndW s Q rm.cells rm.slots)) : own_MetW l Z h0 y bytes maxL ret ws rm as' Q := by
  refine MetFree.of_bodySF hpl hisR ?_
  intro p e s m args below meth c s₁ Bd hml0 hP hK
  obtain ⟨rfl, hZ, hh⟩ := hP
  exact body p e s m below meth c s₁ (Stand.of_body Bd) Bd.exec Bd.bytes hml0 Bd.returns Bd.notSynchronized (findClass_of_methodNamed Bd.named) (name_of_methodNamed Bd.named Bd.method).1 hZ (by rw [← hh, Bd.state]; rfl)
theorem own_leaveW (X : Stand p l e R (s.setVm vm0) m args below meth c T locs cells slots) (hS : s.Since vm0 k0) (hk : k0 ≤ h.size) (hlk : meth.locks = false) {v : Option Value} {Q : Option Value → Heap → List Loc → Prop} {C K : Nat} {g : JFrame} (hv : meth.sig.returnType = none → v = none)
    (st : ∀ fs, (∀ (f : JFrame) (acts : List Action), f.method = m → f.locked = none → f.entered = [] → (doReturn e (T.setTop f) acts v).1 = T.setFrames fs) → Steps p.tables e below (T.setTop g) (T.setFrames fs))
    (eT : T.heap = h) (hQ : Q v h locs) (hc : cells ≤ C) (hkk : slots ≤ K) : own_Go p e below (T.setTop g) (own_EndW s Q C K) := by
  obtain ⟨fs, hr, hrun, hended, hW, hsame⟩ := X.leave (v := v) hv hlk
  subst eT
  have h2 : s.Since (T.setFrames fs).vm T.heap.size := hS.trans (hW.since T.heap.size) hk
  have h3 : s.sameButNew ({ T.setFrames fs with vm := s.vm } : State) locs cells slots := hsame.setVm s.vm
  exact ⟨_, _, st fs hr, hrun, hended, v, locs, rfl, hQ, ⟨_, rfl⟩, h2.1, h2.2, h3.mono hc hkk⟩
theorem own_retVW (X : Stand p l e R (s.setVm vm0) m args below meth c T locs cells slots) (hS : s.Since vm0 k0) (hkh : k0 ≤ h.size) (hx : p.tables.exec = Jvm.exec) (hlk : meth.locks = false) {pc : Nat} {Ls : Array Slot} {Q : Option Value → Heap → List Loc → Prop} {C K : Nat} (hret : meth.sig.returnType = none) (hd : decode c.code pc = .ok (.return_, 1))
    (eT : T.heap = h) (hQ : Q none h locs) (hc : cells ≤ C) (hk : slots ≤ K) : own_Go p e below (T.setTop (mkF m pc Ls [])) (own_EndW s Q C K) :=
  own_leaveW X hS hkh hlk (fun _ => rfl) (fun fs hl => X.returnOut hx hret hd hl) eT hQ hc hk
theorem own_retNW (X : Stand p l e R (s.setVm vm0) m args below meth c T locs cells slots) (hS : s.Since vm0 k0) (hkh : k0 ≤ h.size) (hx : p.tables.exec = Jvm.exec) (hlk : meth.locks = false) {pc : Nat} {Ls : Array Slot} {z : Int32} {t : FieldType} {rest : List Value} {Q : Option Value → Heap → List Loc → Prop} {C K : Nat} (hret : meth.sig.returnType = some t) (ht : t = .boolean ∨ t = .byte ∨ t = .char ∨ t = .short) (hd : decode c.code pc = .ok (.ireturn, 1))
    (eT : T.heap = h) (hQ : Q (some (.int (nar t z))) h locs) (hc : cells ≤ C) (hk : slots ≤ K) : own_Go p e below (T.setTop (mkF m pc Ls (.int z :: rest))) (own_EndW s Q C K) :=
  own_leaveW X hS hkh hlk (fun q => by rw [hret] at q; cases q) (fun fs hl => retN X hx hret ht hd hl) eT hQ hc hk
theorem own_newPx (X : Stand p l e R s m args below meth c T locs cells slots) (hx : p.tables.exec = Jvm.exec) (hZ : Z.Warmed39 s.vm) {aty : ArrayType} (w : (Cond.arrayClass (newarray.typeOf aty)).before a0 Z = true) (eT : T.heap = h) {g : JFrame} (hg : g.method = m) (hd : decode c.code g.pc = .ok (.newarray aty, 2)) {z : Int32} {rest : List Value} (hs : g.stack = .int z :: rest)
    {n cap : Nat} (hz : z = Int32.ofNat n) (hn : n ≤ cap) (hb : cap * 8 ≤ 536870912) (hc : cells + 1 ≤ R.cells) (hl : slots + cap ≤ R.slots) :
    ∃ T' h', Stand p l e R s m args below meth c T' locs (cells + 1) (slots + cap) ∧ T'.heap = h' ∧ Ext h h' ∧ own_Ar Z h' h.size (newarray.typeOf aty) n (fun _ => defaultValue (newarray.typeOf aty)) ∧ Exa Z h' h.size ("[" ++ (newarray.typeOf aty).toString) ∧
      ∀ target, Steps p.tables e below (T'.setTop { g with pc := g.pc + 2, stack := .ref h.size :: rest }) target → Steps p.tables e below (T.setTop g) target := by
  obtain ⟨c1, c2⟩ := own_clamp (k := n) (by omega)
  subst hz
  have hcb : componentBytes (newarray.typeOf aty) ≤ 8 := by cases aty <;> decide
  obtain ⟨cA, kA, comp, h1, h2, h3, X', st⟩ := X.newarrayPrim hx (mvA hZ w) hg hd hs c2 (by rw [c1]; exact Nat.le_trans (Nat.mul_le_mul hn hcb) hb) hc (by rw [c1]; omega)
  subst eT
  rw [hZ.alike.findClass] at h1
  obtain ⟨kZ, z1, -⟩ := Vm.findClass_spec h1
  obtain ⟨k', z2, z3⟩ := hZ.alike.2.2 _ _ z1
  cases h2.symm.trans z2
  have A : Arr Z (T.pushCell { cls := cA, slots := Array.replicate (Int32.ofNat n).toNatClampNeg (defaultValue (newarray.typeOf aty)), vm := .none }).heap T.heap.size { cls := cA, slots := Array.replicate (Int32.ofNat n).toNatClampNeg (defaultValue (newarray.typeOf aty)), vm := .none } (newarray.typeOf aty) :=
    ⟨by show (T.heap.push _)[T.heap.size]? = _; simp, ⟨by simp, kZ, z1, comp, by rw [← h3, z3]⟩, by simp⟩
  refine ⟨_, _, own_mono X' (Nat.le_refl _) (by rw [c1]; omega), rfl, ⟨by show T.heap.size ≤ (T.heap.push _).size; simp, fun a c h => ?_⟩, ⟨by omega, _, A, by simp [c1], fun i hi => ⟨by simp [c1, hi], by cases aty <;> rfl⟩⟩, exa_arr A h1 rfl, st⟩
  show (T.heap.push _)[a]? = _
  rw [Array.getElem?_push_lt (Array.getElem?_eq_some_iff.mp h).1]; exact (Array.getElem?_eq_getElem _).symm.trans h
end OwnW


theorem own_Ar.arv {Z : State} {h : Heap} {a : Addr} {ty : FieldType} {n : Nat} {f : Nat → Value} (F : own_Ar Z h a ty n f) (d : Value) : ∃ k, Arv Z h a k ty (Int32.ofNat n) ((List.range n).map f) d := by
  obtain ⟨hn, c, A, S, H⟩ := F
  obtain ⟨e1, e2⟩ := own_clamp (k := n) hn
  have gd : ∀ i, i < n → ((List.range n).map f).getD i d = f i := fun i hi => by
    rw [List.getD_eq_getElem?_getD, List.getElem?_map, List.getElem?_range hi]; rfl
  refine ⟨c.cls, c, A, rfl, by rw [S, e1], e2, fun i hi => ?_, fun i hi => ?_⟩
  · rw [S] at hi; rw [gd i hi]; exact (H i hi).1
  · rw [S] at hi; rw [gd i hi]; exact (H i hi).2
theorem own_Ar.of_arv {Z : State} {h : Heap} {a : Addr} {k : ClassId} {ty : FieldType} {n : Nat} {vs : List Value} {d : Value} {f : Nat → Value} (F : Arv Z h a k ty (Int32.ofNat n) vs d) (hn : n < 2 ^ 31) (q : ∀ i, i < n → vs.getD i d = f i) : own_Ar Z h a ty n f := by
  obtain ⟨c, A, -, S, -, H, G⟩ := F
  rw [(own_clamp (k := n) hn).1] at S
  exact ⟨hn, c, A, S, fun i hi => by rw [← q i hi]; exact ⟨H i (by rw [S]; exact hi), G i (by rw [S]; exact hi)⟩⟩
/-- System.arraycopy of the first k places of an array into another of the same plain kind -/
theorem own_copy {p : Program} {l : Launch} {e : Env} {R : Room} {s : State} {m : MethodId} {args : Array Value} {below : List Frame} {meth : Method} {c : Code} {T : State} {locs : List Loc} {cells slots : Nat} {Z : State} {a0 : Array Value} {h : Heap} {a b : Addr} {ty : FieldType} {n n' : Nat} {f f' : Nat → Value}
    (X : Stand p l e R s m args below meth c T locs cells slots) (hx : p.tables.exec = Jvm.exec) (hZ : Z.Warmed39 s.vm) {own : String} {index : Nat} (hown : s.vm.findClass own = some m.cls)
    (w1 : (Cond.methodLink own index Jvm.Stand.acN).before a0 Z = true) (w2 : (Cond.native Jvm.Stand.acN).before a0 Z = true) (w3 : (Cond.static Jvm.Stand.acN).before a0 Z = true) (w4 : (Cond.initialized "java/lang/System").before a0 Z = true) (eT : T.heap = h)
    (A : own_Ar Z h a ty n f) (B : own_Ar Z h b ty n' f') (hty : refKind ty = false) {k : Nat} (hk : k ≤ n) (hk' : k ≤ n') {n0 : Nat} (N : Fr n0 locs) (ge : n0 ≤ b)
    {g : JFrame} (hg : g.method = m) (hsize : g.locals.size = c.maxLocals) {rest : List Value} (hs : g.stack = .int (Int32.ofNat k) :: .int 0 :: .ref b :: .int 0 :: .ref a :: rest) (hd : decode c.code g.pc = .ok (.invokestatic index, 3))
    (hf : 1 ≤ R.frames) {W : Nat} (hW : 2 * g.monitorRoom + (rest.map fun v => v.category).sum ≤ W) (hlo : W + (nativeFrameWords "java/lang/System" "arraycopy" 5 + 11) ≤ R.locals) :
    ∃ T' h' L, Stand p l e R s m args below meth c T' L cells slots ∧ T'.heap = h' ∧ Fr n0 L ∧ Keep h h' [b] ∧ own_Ar Z h' b ty n' (fun i => if i < k then f i else f' i) ∧
      ∀ target, Steps p.tables e below (T'.setTop { g with pc := g.pc + 3, stack := rest }) target → Steps p.tables e below (T.setTop g) target := by
  have hn := A.1
  have hn' := B.1
  obtain ⟨ka, VA⟩ := A.arv .null
  obtain ⟨kb, VB⟩ := B.arv .null
  have c0 : (0 : Int32).toNatClampNeg = 0 := rfl
  have ck := (own_clamp (k := k) (by omega)).1
  have cn := (own_clamp (k := n) hn).1
  have cn' := (own_clamp (k := n') hn').1
  obtain ⟨T', h', L, X', e', N', K', V', st⟩ := cpA X hx hZ hown w1 w2 w3 w4 eT (sp := 0) (dp := 0) (nn := Int32.ofNat k) (us := (List.range k).map f) VA VB (Or.inl ⟨rfl, hty⟩) (by decide) (by decide) (own_clamp (k := k) (by omega)).2 (by rw [c0, ck, cn]; omega) (by rw [c0, ck, cn']; omega)
    (by
      rw [ck, c0]
      refine List.map_congr_left fun i hi => ?_
      have hi' : i < k := List.mem_range.mp hi
      rw [Nat.zero_add, List.getD_eq_getElem?_getD, List.getElem?_map, List.getElem?_range (by omega)]; rfl)
    (by rw [c0, ck, List.length_map, List.length_range]; omega) N ge hg hsize hs hd hf hW hlo
  refine ⟨T', h', L, X', e', N', K', own_Ar.of_arv V' hn' fun i hi => ?_, st⟩
  rw [c0, ck, List.take_zero, List.nil_append, Nat.zero_add, List.getD_eq_getElem?_getD]
  by_cases q : i < k
  · rw [List.getElem?_append_left (by simp [q]), List.getElem?_map, List.getElem?_range q, if_pos q]; rfl
  · rw [List.getElem?_append_right (by simp; omega), if_neg q, List.getElem?_drop, List.length_map, List.length_range, show k + (i - k) = i by omega, List.getElem?_map, List.getElem?_range hi]; rfl
def own_maxI (a b : Int32) : Int32 := if a < b then b else a
def own_cpy (g : Nat → Int32) (n : Nat) : Nat → Int32 := fun i => if i < n then g i else 0

theorem d9_0 : decode jdk_29_method_65_code 0 = .ok (.iload_n 0, 1) := by decide +kernel
theorem d9_1 : decode jdk_29_method_65_code 1 = .ok (.iload_n 1, 1) := by decide +kernel
theorem d9_2 : decode jdk_29_method_65_code 2 = .ok (.if_icmp .lt 7, 3) := by decide +kernel
theorem d9_5 : decode jdk_29_method_65_code 5 = .ok (.iload_n 0, 1) := by decide +kernel
theorem d9_6 : decode jdk_29_method_65_code 6 = .ok (.goto 4, 3) := by decide +kernel
theorem d9_9 : decode jdk_29_method_65_code 9 = .ok (.iload_n 1, 1) := by decide +kernel
theorem d9_10 : decode jdk_29_method_65_code 10 = .ok (.ireturn, 1) := by decide +kernel
def Q_rm9 (Z : State) (a : Int32) (b : Int32) (h0 : Heap) (n0 : Nat) (v : Option Value) (h : Heap) (L : List Loc) : Prop := v = some (.int (own_maxI a b)) ∧ Fr n0 L ∧ h = h0
set_option maxRecDepth 65536 in
set_option maxHeartbeats 40000000 in
theorem rm9 (l : Launch) (Z : State) (a0 : Array Value) (hw : ∀ d ∈ tables_1, d.before a0 Z = true) (ws : List Jvm.Cond) (a : Int32) (b : Int32) (h0 : Heap) (n0 : Nat) (Z0 : n0 ≤ h0.size)  :
    own_Met l Z h0 (⟨"java/lang/Math", "max", "(II)I"⟩ : MethodName) jdk_29_method_65_code 2 (some .int) ws ({ frames := 0, cells := 0, slots := 0, locals := 0 } : Room) #[(.int a), (.int b)] (Q_rm9 Z a b h0 n0) := by
  refine own_enter (Jvm.Free.JP.mathPlain rfl (by decide +kernel)) ?_
  intro p e s m below meth c T0 X0 hx hby hml hret hlk hown hnm hZ e0
  have N0 := Fr.nil n0
  rw [show entryFrame m #[(.int a), (.int b)] 2 = (mkF m 0 #[.val (.int a), .val (.int b)] []) from by first | (simp [entryFrame, mkF, argsToLocals, Value.category]; done) | rfl]
  refine own_Go.of (S' := (T0.setTop (mkF m 2 #[.val (.int a), .val (.int b)] [(.int b), (.int a)]))) (fun t kt => ?_) ?_
  · show Steps p.tables e below (T0.setTop (mkF m 0 #[.val (.int a), .val (.int b)] [])) _
    refine XS.iloadN X0.here hx rfl (own_hb hby d9_0) rfl ?_
    refine XS.iloadN X0.here hx rfl (own_hb hby d9_1) rfl ?_
    exact kt
  by_cases hc2_1 : a < b
  · skip
    refine own_Go.of (S' := (T0.setTop (mkF m 10 #[.val (.int a), .val (.int b)] [(.int b)]))) (fun t kt => ?_) ?_
    · show Steps p.tables e below (T0.setTop (mkF m 2 #[.val (.int a), .val (.int b)] [(.int b), (.int a)])) _
      refine XS.icmpYes X0.here hx rfl (pc0 := 2) (pc' := 9) rfl (own_hb hby d9_2) rfl (tlt hc2_1).1 (by decide) (by decide) ?_
      refine XS.iloadN X0.here hx rfl (own_hb hby d9_9) rfl ?_
      exact kt
    exact own_retI X0 hx hlk hret (own_hb hby d9_10) e0 ⟨by unfold own_maxI; rw [if_pos hc2_1], N0, rfl⟩ (by decide) (by decide)
  · skip
    refine own_Go.of (S' := (T0.setTop (mkF m 10 #[.val (.int a), .val (.int b)] [(.int a)]))) (fun t kt => ?_) ?_
    · show Steps p.tables e below (T0.setTop (mkF m 2 #[.val (.int a), .val (.int b)] [(.int b), (.int a)])) _
      refine XS.icmpNo X0.here hx rfl (own_hb hby d9_2) rfl (flt hc2_1).1 ?_
      refine XS.iloadN X0.here hx rfl (own_hb hby d9_5) rfl ?_
      refine XS.goto X0.here hx rfl (pc0 := 6) (pc' := 10) rfl (own_hb hby d9_6) (by decide) (by decide) ?_
      exact kt
    exact own_retI X0 hx hlk hret (own_hb hby d9_10) e0 ⟨by unfold own_maxI; rw [if_neg hc2_1], N0, rfl⟩ (by decide) (by decide)
theorem d12_0 : decode jdk_29_method_69_code 0 = .ok (.iload_n 0, 1) := by decide +kernel
theorem d12_1 : decode jdk_29_method_69_code 1 = .ok (.iload_n 1, 1) := by decide +kernel
theorem d12_2 : decode jdk_29_method_69_code 2 = .ok (.if_icmp .gt 7, 3) := by decide +kernel
theorem d12_5 : decode jdk_29_method_69_code 5 = .ok (.iload_n 0, 1) := by decide +kernel
theorem d12_6 : decode jdk_29_method_69_code 6 = .ok (.goto 4, 3) := by decide +kernel
theorem d12_9 : decode jdk_29_method_69_code 9 = .ok (.iload_n 1, 1) := by decide +kernel
theorem d12_10 : decode jdk_29_method_69_code 10 = .ok (.ireturn, 1) := by decide +kernel
def Q_rm12 (Z : State) (a : Nat) (b : Nat) (h0 : Heap) (n0 : Nat) (v : Option Value) (h : Heap) (L : List Loc) : Prop := v = some (.int (Int32.ofNat (min a b))) ∧ Fr n0 L ∧ h = h0
set_option maxRecDepth 65536 in
set_option maxHeartbeats 40000000 in
theorem rm12 (l : Launch) (Z : State) (a0 : Array Value) (hw : ∀ d ∈ tables_1, d.before a0 Z = true) (ws : List Jvm.Cond) (a : Nat) (b : Nat) (h0 : Heap) (n0 : Nat) (Z0 : n0 ≤ h0.size) (ha : a < 2 ^ 31) (hb : b < 2 ^ 31) :
    own_Met l Z h0 (⟨"java/lang/Math", "min", "(II)I"⟩ : MethodName) jdk_29_method_69_code 2 (some .int) ws ({ frames := 0, cells := 0, slots := 0, locals := 0 } : Room) #[(.int (Int32.ofNat a)), (.int (Int32.ofNat b))] (Q_rm12 Z a b h0 n0) := by
  refine own_enter (Jvm.Free.JP.mathPlain rfl (by decide +kernel)) ?_
  intro p e s m below meth c T0 X0 hx hby hml hret hlk hown hnm hZ e0
  have N0 := Fr.nil n0
  rw [show entryFrame m #[(.int (Int32.ofNat a)), (.int (Int32.ofNat b))] 2 = (mkF m 0 #[.val (.int (Int32.ofNat a)), .val (.int (Int32.ofNat b))] []) from by first | (simp [entryFrame, mkF, argsToLocals, Value.category]; done) | rfl]
  refine own_Go.of (S' := (T0.setTop (mkF m 2 #[.val (.int (Int32.ofNat a)), .val (.int (Int32.ofNat b))] [(.int (Int32.ofNat b)), (.int (Int32.ofNat a))]))) (fun t kt => ?_) ?_
  · show Steps p.tables e below (T0.setTop (mkF m 0 #[.val (.int (Int32.ofNat a)), .val (.int (Int32.ofNat b))] [])) _
    refine XS.iloadN X0.here hx rfl (own_hb hby d12_0) rfl ?_
    refine XS.iloadN X0.here hx rfl (own_hb hby d12_1) rfl ?_
    exact kt
  by_cases hc2_2 : b < a
  · skip
    refine own_Go.of (S' := (T0.setTop (mkF m 10 #[.val (.int (Int32.ofNat a)), .val (.int (Int32.ofNat b))] [(.int (Int32.ofNat b))]))) (fun t kt => ?_) ?_
    · show Steps p.tables e below (T0.setTop (mkF m 2 #[.val (.int (Int32.ofNat a)), .val (.int (Int32.ofNat b))] [(.int (Int32.ofNat b)), (.int (Int32.ofNat a))])) _
      refine XS.icmpYes X0.here hx rfl (pc0 := 2) (pc' := 9) rfl (own_hb hby d12_2) rfl (tlt ((own_ltN (by omega) (by omega)).mpr hc2_2)).2.2.1 (by decide) (by decide) ?_
      refine XS.iloadN X0.here hx rfl (own_hb hby d12_9) rfl ?_
      exact kt
    exact own_retI X0 hx hlk hret (own_hb hby d12_10) e0 ⟨by rw [Nat.min_eq_right (by omega)], N0, rfl⟩ (by decide) (by decide)
  · skip
    refine own_Go.of (S' := (T0.setTop (mkF m 10 #[.val (.int (Int32.ofNat a)), .val (.int (Int32.ofNat b))] [(.int (Int32.ofNat a))]))) (fun t kt => ?_) ?_
    · show Steps p.tables e below (T0.setTop (mkF m 2 #[.val (.int (Int32.ofNat a)), .val (.int (Int32.ofNat b))] [(.int (Int32.ofNat b)), (.int (Int32.ofNat a))])) _
      refine XS.icmpNo X0.here hx rfl (own_hb hby d12_2) rfl (flt (fun q => hc2_2 ((own_ltN (by omega) (by omega)).mp q))).2.2.1 ?_
      refine XS.iloadN X0.here hx rfl (own_hb hby d12_5) rfl ?_
      refine XS.goto X0.here hx rfl (pc0 := 6) (pc' := 10) rfl (own_hb hby d12_6) (by decide) (by decide) ?_
      exact kt
    exact own_retI X0 hx hlk hret (own_hb hby d12_10) e0 ⟨by rw [Nat.min_eq_left (by omega)], N0, rfl⟩ (by decide) (by decide)
theorem d13_0 : decode jdk_65_method_123_code 0 = .ok (.iload_n 1, 1) := by decide +kernel
theorem d13_1 : decode jdk_65_method_123_code 1 = .ok (.aload_n 0, 1) := by decide +kernel
theorem d13_2 : decode jdk_65_method_123_code 2 = .ok (.arraylength, 1) := by decide +kernel
theorem d13_3 : decode jdk_65_method_123_code 3 = .ok (.if_icmp .ne 11, 3) := by decide +kernel
theorem d13_6 : decode jdk_65_method_123_code 6 = .ok (.aload_n 0, 1) := by decide +kernel
theorem d13_7 : decode jdk_65_method_123_code 7 = .ok (.invokevirtual 316, 3) := by decide +kernel
theorem d13_10 : decode jdk_65_method_123_code 10 = .ok (.checkcast 317, 3) := by decide +kernel
theorem d13_13 : decode jdk_65_method_123_code 13 = .ok (.areturn, 1) := by decide +kernel
theorem d13_14 : decode jdk_65_method_123_code 14 = .ok (.iload_n 1, 1) := by decide +kernel
theorem d13_15 : decode jdk_65_method_123_code 15 = .ok (.newarray .int, 2) := by decide +kernel
theorem d13_17 : decode jdk_65_method_123_code 17 = .ok (.astore_n 2, 1) := by decide +kernel
theorem d13_18 : decode jdk_65_method_123_code 18 = .ok (.aload_n 0, 1) := by decide +kernel
theorem d13_19 : decode jdk_65_method_123_code 19 = .ok (.iconst 0, 1) := by decide +kernel
theorem d13_20 : decode jdk_65_method_123_code 20 = .ok (.aload_n 2, 1) := by decide +kernel
theorem d13_21 : decode jdk_65_method_123_code 21 = .ok (.iconst 0, 1) := by decide +kernel
theorem d13_22 : decode jdk_65_method_123_code 22 = .ok (.aload_n 0, 1) := by decide +kernel
theorem d13_23 : decode jdk_65_method_123_code 23 = .ok (.arraylength, 1) := by decide +kernel
theorem d13_24 : decode jdk_65_method_123_code 24 = .ok (.iload_n 1, 1) := by decide +kernel
theorem d13_25 : decode jdk_65_method_123_code 25 = .ok (.invokestatic 304, 3) := by decide +kernel
theorem d13_28 : decode jdk_65_method_123_code 28 = .ok (.invokestatic 150, 3) := by decide +kernel
theorem d13_31 : decode jdk_65_method_123_code 31 = .ok (.aload_n 2, 1) := by decide +kernel
theorem d13_32 : decode jdk_65_method_123_code 32 = .ok (.areturn, 1) := by decide +kernel
theorem pn_13 : plainName "java/util/Arrays" = true := by first | (simp [plainName, overriddenIn]; done) | decide +kernel
theorem pd_0 : parseMethodDescriptor "(II)I" = some ⟨[.int, .int], some .int⟩ := by decide +kernel
def Q_rm13 (Z : State) (r : Addr) (j : Nat) (k : Nat) (g : Nat → Int32) (h0 : Heap) (n0 : Nat) (v : Option Value) (h : Heap) (L : List Loc) : Prop := ∃ b : Addr, v = some (.ref b) ∧ Fr n0 L ∧ Keep h0 h [] ∧ (h0.size ≤ b) ∧ (own_Ar Z h b .int j (own_I (own_cpy g k)))
set_option maxRecDepth 65536 in
set_option maxHeartbeats 40000000 in
theorem rm13 (l : Launch) (Z : State) (a0 : Array Value) (hw : ∀ d ∈ tables_1, d.before a0 Z = true) (ws : List Jvm.Cond) (r : Addr) (j : Nat) (k : Nat) (g : Nat → Int32) (h0 : Heap) (n0 : Nat) (Z0 : n0 ≤ h0.size) (pr0 : own_Ar Z h0 r .int k (own_I g)) (hkj : k < j) (hj : j ≤ 8) :
    own_Met l Z h0 (⟨"java/util/Arrays", "copyOf", "([II)[I"⟩ : MethodName) jdk_65_method_123_code 3 (some (.array .int)) ws ({ frames := 1, cells := 1, slots := 8, locals := 18 } : Room) #[(.ref r), (.int (Int32.ofNat j))] (Q_rm13 Z r j k g h0 n0) := by
  refine own_enter (plainFor_of_name pn_13) ?_
  intro p e s m below meth c T0 X0 hx hby hml hret hlk hown hnm hZ e0
  have N0 := Fr.nil n0
  have kp0 : Keep h0 h0 [] := Keep.refl h0 _
  rw [show entryFrame m #[(.ref r), (.int (Int32.ofNat j))] 3 = (mkF m 0 #[.val (.ref r), .val (.int (Int32.ofNat j)), .unset] []) from by first | (simp [entryFrame, mkF, argsToLocals, Value.category]; done) | rfl]
  refine own_Go.of (S' := (T0.setTop (mkF m 2 #[.val (.ref r), .val (.int (Int32.ofNat j)), .unset] [(.ref r), (.int (Int32.ofNat j))]))) (fun t kt => ?_) ?_
  · show Steps p.tables e below (T0.setTop (mkF m 0 #[.val (.ref r), .val (.int (Int32.ofNat j)), .unset] [])) _
    refine XS.iloadN X0.here hx rfl (own_hb hby d13_0) rfl ?_
    refine XS.aloadN X0.here hx rfl (own_hb hby d13_1) rfl rfl ?_
    exact kt
  obtain ⟨cl3, Ar3, hln3⟩ := own_Ar.len pr0
  refine own_Go.of (S' := (T0.setTop (mkF m 15 #[.val (.ref r), .val (.int (Int32.ofNat j)), .unset] [(.int (Int32.ofNat j))]))) (fun t kt => ?_) ?_
  · show Steps p.tables e below (T0.setTop (mkF m 2 #[.val (.ref r), .val (.int (Int32.ofNat j)), .unset] [(.ref r), (.int (Int32.ofNat j))])) _
    refine X0.arraylength hx (by rw [e0]; exact Ar3.1) (State.isArrayOf_alike hZ.alike Ar3.2.1) (g := (mkF m 2 #[.val (.ref r), .val (.int (Int32.ofNat j)), .unset] [(.ref r), (.int (Int32.ofNat j))])) rfl rfl (own_hb hby d13_2) _ ?_
    rw [hln3]
    refine XS.icmpYes X0.here hx rfl (pc0 := 3) (pc' := 14) rfl (own_hb hby d13_3) rfl (feq (fun q => by have h2 := (own_eqN (by omega) (by omega)).mp q; omega)).2 (by decide) (by decide) ?_
    refine XS.iloadN X0.here hx rfl (own_hb hby d13_14) rfl ?_
    exact kt
  obtain ⟨T4, h4, X4, e4, E4, A4, st4⟩ := own_newP X0 hx hZ (hw _ (List.mem_of_getElem? (i := 16) rfl)) e0 (g := (mkF m 15 #[.val (.ref r), .val (.int (Int32.ofNat j)), .unset] [(.int (Int32.ofNat j))])) rfl (own_hb hby d13_15) rfl (n := j) (cap := 8) rfl hj (by decide) (by decide) (by decide)
  obtain ⟨b4, g4⟩ : ∃ z, z = h0.size := ⟨_, rfl⟩
  rw [← g4] at A4 st4
  have gx4 : n0 ≤ b4 := Nat.le_trans Z0 (Nat.le_of_eq g4.symm)
  have ne5 : r ≠ b4 := Nat.ne_of_lt (Nat.lt_of_lt_of_le pr0.lt (Nat.le_of_eq g4.symm))
  have sz4 : h0.size ≤ b4 := Nat.le_trans kp0.1 (Nat.le_of_eq g4.symm)
  refine own_Go.of (S' := (T4.setTop (mkF m 17 #[.val (.ref r), .val (.int (Int32.ofNat j)), .unset] [(.ref b4)]))) st4 ?_
  have f6 := pr0.ext E4
  have z7 := Nat.le_trans Z0 E4.1
  have kp8 := kp0.ext E4
  have f9 : own_Ar Z h4 b4 .int j (own_I (fun _ => (0 : Int32))) := A4
  refine own_Go.of (S' := (T4.setTop (mkF m 23 #[.val (.ref r), .val (.int (Int32.ofNat j)), .val (.ref b4)] [(.ref r), (.int (0 : Int32)), (.ref b4), (.int (0 : Int32)), (.ref r)]))) (fun t kt => ?_) ?_
  · show Steps p.tables e below (T4.setTop (mkF m 17 #[.val (.ref r), .val (.int (Int32.ofNat j)), .unset] [(.ref b4)])) _
    refine XS.astoreN X4.here hx rfl (own_hb hby d13_17) rfl rfl (l' := #[.val (.ref r), .val (.int (Int32.ofNat j)), .val (.ref b4)]) rfl ?_
    refine XS.aloadN X4.here hx rfl (own_hb hby d13_18) rfl rfl ?_
    refine XS.iconst X4.here hx rfl (own_hb hby d13_19) ?_
    refine XS.aloadN X4.here hx rfl (own_hb hby d13_20) rfl rfl ?_
    show Steps p.tables e below (T4.setTop (mkF m 21 #[.val (.ref r), .val (.int (Int32.ofNat j)), .val (.ref b4)] [(.ref b4), (.int (0 : Int32)), (.ref r)])) _
    refine XS.iconst X4.here hx rfl (own_hb hby d13_21) ?_
    refine XS.aloadN X4.here hx rfl (own_hb hby d13_22) rfl rfl ?_
    exact kt
  obtain ⟨cl10, Ar10, hln10⟩ := own_Ar.len f6
  refine own_Go.of (S' := (T4.setTop (mkF m 25 #[.val (.ref r), .val (.int (Int32.ofNat j)), .val (.ref b4)] [(.int (Int32.ofNat j)), (.int (Int32.ofNat k)), (.int (0 : Int32)), (.ref b4), (.int (0 : Int32)), (.ref r)]))) (fun t kt => ?_) ?_
  · show Steps p.tables e below (T4.setTop (mkF m 23 #[.val (.ref r), .val (.int (Int32.ofNat j)), .val (.ref b4)] [(.ref r), (.int (0 : Int32)), (.ref b4), (.int (0 : Int32)), (.ref r)])) _
    refine X4.arraylength hx (by rw [e4]; exact Ar10.1) (State.isArrayOf_alike hZ.alike Ar10.2.1) (g := (mkF m 23 #[.val (.ref r), .val (.int (Int32.ofNat j)), .val (.ref b4)] [(.ref r), (.int (0 : Int32)), (.ref b4), (.int (0 : Int32)), (.ref r)])) rfl rfl (own_hb hby d13_23) _ ?_
    rw [hln10]
    refine XS.iloadN X4.here hx rfl (own_hb hby d13_24) rfl ?_
    exact kt
  obtain ⟨_, _, ⟨T11, L11, k11, n11⟩, -, X11, ⟨Lc11, hQ11, l11, y11, z11⟩, st11⟩ := Jvm.LawKit.callS X4 hx (y := (⟨"java/lang/Math", "min", "(II)I"⟩ : MethodName)) hown (mvT hZ (hw _ (List.mem_of_getElem? (i := 75) rfl))) (mvT hZ (hw _ (List.mem_of_getElem? (i := 76) rfl))) (mvT hZ (hw _ (List.mem_of_getElem? (i := 60) rfl))) (mvT hZ (hw _ (List.mem_of_getElem? (i := 77) rfl))) (by decide) (backOf (W := 4) (rm12 l Z a0 hw [] k j h4 n0 z7 (by omega) (by omega)) hZ (hw _ (List.mem_of_getElem? (i := 77) rfl)) (hw _ (List.mem_of_getElem? (i := 60) rfl)) (by decide) (by decide)) (g := (mkF m 25 #[.val (.ref r), .val (.int (Int32.ofNat j)), .val (.ref b4)] [(.int (Int32.ofNat j)), (.int (Int32.ofNat k)), (.int (0 : Int32)), (.ref b4), (.int (0 : Int32)), (.ref r)])) rfl (by rw [hml]; rfl) (argsL := [(.int (Int32.ofNat k)), (.int (Int32.ofNat j))]) (rest := [(.int (0 : Int32)), (.ref b4), (.int (0 : Int32)), (.ref r)]) (lenOf pd_0 rfl) rfl (by show 2 * 0 + _ ≤ _; exact Nat.le_of_eq rfl) (own_hb hby d13_25) (fun _ _ => ⟨rfl, e4, (by decide : 1 + 0 ≤ _), (by decide : 8 + 0 ≤ _)⟩)
  dsimp only [Pt.U, Pt.locs, Pt.cells, Pt.slots] at X11 l11 y11 z11 st11 hQ11
  subst l11 y11 z11
  obtain ⟨rfl, N11q, hh11⟩ := hQ11
  have N11 := Fr.app N0 N11q
  refine own_Go.of (S' := (T11.setTop (mkF m 28 #[.val (.ref r), .val (.int (Int32.ofNat j)), .val (.ref b4)] [(.int (Int32.ofNat (min k j))), (.int (0 : Int32)), (.ref b4), (.int (0 : Int32)), (.ref r)]))) (fun t kt => st11 t kt) ?_
  refine own_Go.of (S' := (T11.setTop (mkF m 28 #[.val (.ref r), .val (.int (Int32.ofNat j)), .val (.ref b4)] [(.int (Int32.ofNat k)), (.int (0 : Int32)), (.ref b4), (.int (0 : Int32)), (.ref r)]))) (fun t kt => ?_) ?_
  · show Steps p.tables e below (T11.setTop (mkF m 28 #[.val (.ref r), .val (.int (Int32.ofNat j)), .val (.ref b4)] [(.int (Int32.ofNat (min k j))), (.int (0 : Int32)), (.ref b4), (.int (0 : Int32)), (.ref r)])) _
    rw [Nat.min_eq_left (Nat.le_of_lt hkj)]
    exact kt
  obtain ⟨T12, h12, L12, X12, e12, N12, K12, A12, st12⟩ := own_copy X11 hx hZ hown (hw _ (List.mem_of_getElem? (i := 78) rfl)) (hw _ (List.mem_of_getElem? (i := 81) rfl)) (hw _ (List.mem_of_getElem? (i := 79) rfl)) (hw _ (List.mem_of_getElem? (i := 80) rfl)) hh11 f6 f9 rfl (Nat.le_refl k) (Nat.le_of_lt hkj) N11 gx4 (g := (mkF m 28 #[.val (.ref r), .val (.int (Int32.ofNat j)), .val (.ref b4)] [(.int (Int32.ofNat k)), (.int (0 : Int32)), (.ref b4), (.int (0 : Int32)), (.ref r)])) rfl (by rw [hml]; rfl) rfl (own_hb hby d13_28) (by decide) (W := 0) (by show 2 * 0 + _ ≤ _; exact Nat.le_of_eq rfl) (by decide)
  refine own_Go.of (S' := (T12.setTop (mkF m 31 #[.val (.ref r), .val (.int (Int32.ofNat j)), .val (.ref b4)] []))) st12 ?_
  have f13 := f6.keep K12 (ninS ne5 nin0)
  have z14 := Nat.le_trans z7 K12.1
  have kp15 := kp8.trans K12 (allS (Or.inr sz4) all0)
  have fcp : own_Ar Z h12 b4 .int j (own_I (own_cpy g k)) := A12.eqv (fun i hi => by unfold own_I own_cpy; by_cases q : i < k <;> simp only [q, if_true, if_false])
  refine own_Go.of (S' := (T12.setTop (mkF m 32 #[.val (.ref r), .val (.int (Int32.ofNat j)), .val (.ref b4)] [(.ref b4)]))) (fun t kt => ?_) ?_
  · show Steps p.tables e below (T12.setTop (mkF m 31 #[.val (.ref r), .val (.int (Int32.ofNat j)), .val (.ref b4)] [])) _
    refine XS.aloadN X12.here hx rfl (own_hb hby d13_31) rfl rfl ?_
    exact kt
  exact own_retA X12 hx hlk hret rfl rfl (own_hb hby d13_32) e12 ⟨b4, rfl, N12, kp15, sz4, fcp⟩ (by decide) (by decide)
theorem d11_0 : decode jdk_65_method_128_code 0 = .ok (.iload_n 1, 1) := by decide +kernel
theorem d11_1 : decode jdk_65_method_128_code 1 = .ok (.aload_n 0, 1) := by decide +kernel
theorem d11_2 : decode jdk_65_method_128_code 2 = .ok (.arraylength, 1) := by decide +kernel
theorem d11_3 : decode jdk_65_method_128_code 3 = .ok (.if_icmp .ne 11, 3) := by decide +kernel
theorem d11_6 : decode jdk_65_method_128_code 6 = .ok (.aload_n 0, 1) := by decide +kernel
theorem d11_7 : decode jdk_65_method_128_code 7 = .ok (.invokevirtual 331, 3) := by decide +kernel
theorem d11_10 : decode jdk_65_method_128_code 10 = .ok (.checkcast 332, 3) := by decide +kernel
theorem d11_13 : decode jdk_65_method_128_code 13 = .ok (.areturn, 1) := by decide +kernel
theorem d11_14 : decode jdk_65_method_128_code 14 = .ok (.iload_n 1, 1) := by decide +kernel
theorem d11_15 : decode jdk_65_method_128_code 15 = .ok (.newarray .boolean, 2) := by decide +kernel
theorem d11_17 : decode jdk_65_method_128_code 17 = .ok (.astore_n 2, 1) := by decide +kernel
theorem d11_18 : decode jdk_65_method_128_code 18 = .ok (.aload_n 0, 1) := by decide +kernel
theorem d11_19 : decode jdk_65_method_128_code 19 = .ok (.iconst 0, 1) := by decide +kernel
theorem d11_20 : decode jdk_65_method_128_code 20 = .ok (.aload_n 2, 1) := by decide +kernel
theorem d11_21 : decode jdk_65_method_128_code 21 = .ok (.iconst 0, 1) := by decide +kernel
theorem d11_22 : decode jdk_65_method_128_code 22 = .ok (.aload_n 0, 1) := by decide +kernel
theorem d11_23 : decode jdk_65_method_128_code 23 = .ok (.arraylength, 1) := by decide +kernel
theorem d11_24 : decode jdk_65_method_128_code 24 = .ok (.iload_n 1, 1) := by decide +kernel
theorem d11_25 : decode jdk_65_method_128_code 25 = .ok (.invokestatic 304, 3) := by decide +kernel
theorem d11_28 : decode jdk_65_method_128_code 28 = .ok (.invokestatic 150, 3) := by decide +kernel
theorem d11_31 : decode jdk_65_method_128_code 31 = .ok (.aload_n 2, 1) := by decide +kernel
theorem d11_32 : decode jdk_65_method_128_code 32 = .ok (.areturn, 1) := by decide +kernel
theorem pn_11 : plainName "java/util/Arrays" = true := by first | (simp [plainName, overriddenIn]; done) | decide +kernel
def Q_rm11 (Z : State) (r : Addr) (j : Nat) (k : Nat) (g : Nat → Int32) (h0 : Heap) (n0 : Nat) (v : Option Value) (h : Heap) (L : List Loc) : Prop := ∃ b : Addr, v = some (.ref b) ∧ Fr n0 L ∧ Keep h0 h [] ∧ (h0.size ≤ b) ∧ (own_Ar Z h b .boolean j (own_I (own_cpy g k)))
set_option maxRecDepth 65536 in
set_option maxHeartbeats 40000000 in
theorem rm11 (l : Launch) (Z : State) (a0 : Array Value) (hw : ∀ d ∈ tables_1, d.before a0 Z = true) (ws : List Jvm.Cond) (r : Addr) (j : Nat) (k : Nat) (g : Nat → Int32) (h0 : Heap) (n0 : Nat) (Z0 : n0 ≤ h0.size) (pr0 : own_Ar Z h0 r .boolean k (own_I g)) (hkj : k < j) (hj : j ≤ 8) :
    own_Met l Z h0 (⟨"java/util/Arrays", "copyOf", "([ZI)[Z"⟩ : MethodName) jdk_65_method_128_code 3 (some (.array .boolean)) ws ({ frames := 1, cells := 1, slots := 8, locals := 18 } : Room) #[(.ref r), (.int (Int32.ofNat j))] (Q_rm11 Z r j k g h0 n0) := by
  refine own_enter (plainFor_of_name pn_11) ?_
  intro p e s m below meth c T0 X0 hx hby hml hret hlk hown hnm hZ e0
  have N0 := Fr.nil n0
  have kp0 : Keep h0 h0 [] := Keep.refl h0 _
  rw [show entryFrame m #[(.ref r), (.int (Int32.ofNat j))] 3 = (mkF m 0 #[.val (.ref r), .val (.int (Int32.ofNat j)), .unset] []) from by first | (simp [entryFrame, mkF, argsToLocals, Value.category]; done) | rfl]
  refine own_Go.of (S' := (T0.setTop (mkF m 2 #[.val (.ref r), .val (.int (Int32.ofNat j)), .unset] [(.ref r), (.int (Int32.ofNat j))]))) (fun t kt => ?_) ?_
  · show Steps p.tables e below (T0.setTop (mkF m 0 #[.val (.ref r), .val (.int (Int32.ofNat j)), .unset] [])) _
    refine XS.iloadN X0.here hx rfl (own_hb hby d11_0) rfl ?_
    refine XS.aloadN X0.here hx rfl (own_hb hby d11_1) rfl rfl ?_
    exact kt
  obtain ⟨cl16, Ar16, hln16⟩ := own_Ar.len pr0
  refine own_Go.of (S' := (T0.setTop (mkF m 15 #[.val (.ref r), .val (.int (Int32.ofNat j)), .unset] [(.int (Int32.ofNat j))]))) (fun t kt => ?_) ?_
  · show Steps p.tables e below (T0.setTop (mkF m 2 #[.val (.ref r), .val (.int (Int32.ofNat j)), .unset] [(.ref r), (.int (Int32.ofNat j))])) _
    refine X0.arraylength hx (by rw [e0]; exact Ar16.1) (State.isArrayOf_alike hZ.alike Ar16.2.1) (g := (mkF m 2 #[.val (.ref r), .val (.int (Int32.ofNat j)), .unset] [(.ref r), (.int (Int32.ofNat j))])) rfl rfl (own_hb hby d11_2) _ ?_
    rw [hln16]
    refine XS.icmpYes X0.here hx rfl (pc0 := 3) (pc' := 14) rfl (own_hb hby d11_3) rfl (feq (fun q => by have h2 := (own_eqN (by omega) (by omega)).mp q; omega)).2 (by decide) (by decide) ?_
    refine XS.iloadN X0.here hx rfl (own_hb hby d11_14) rfl ?_
    exact kt
  obtain ⟨T17, h17, X17, e17, E17, A17, st17⟩ := own_newP X0 hx hZ (hw _ (List.mem_of_getElem? (i := 70) rfl)) e0 (g := (mkF m 15 #[.val (.ref r), .val (.int (Int32.ofNat j)), .unset] [(.int (Int32.ofNat j))])) rfl (own_hb hby d11_15) rfl (n := j) (cap := 8) rfl hj (by decide) (by decide) (by decide)
  obtain ⟨b17, g17⟩ : ∃ z, z = h0.size := ⟨_, rfl⟩
  rw [← g17] at A17 st17
  have gx17 : n0 ≤ b17 := Nat.le_trans Z0 (Nat.le_of_eq g17.symm)
  have ne18 : r ≠ b17 := Nat.ne_of_lt (Nat.lt_of_lt_of_le pr0.lt (Nat.le_of_eq g17.symm))
  have sz17 : h0.size ≤ b17 := Nat.le_trans kp0.1 (Nat.le_of_eq g17.symm)
  refine own_Go.of (S' := (T17.setTop (mkF m 17 #[.val (.ref r), .val (.int (Int32.ofNat j)), .unset] [(.ref b17)]))) st17 ?_
  have f19 := pr0.ext E17
  have z20 := Nat.le_trans Z0 E17.1
  have kp21 := kp0.ext E17
  have f22 : own_Ar Z h17 b17 .boolean j (own_I (fun _ => (0 : Int32))) := A17
  refine own_Go.of (S' := (T17.setTop (mkF m 23 #[.val (.ref r), .val (.int (Int32.ofNat j)), .val (.ref b17)] [(.ref r), (.int (0 : Int32)), (.ref b17), (.int (0 : Int32)), (.ref r)]))) (fun t kt => ?_) ?_
  · show Steps p.tables e below (T17.setTop (mkF m 17 #[.val (.ref r), .val (.int (Int32.ofNat j)), .unset] [(.ref b17)])) _
    refine XS.astoreN X17.here hx rfl (own_hb hby d11_17) rfl rfl (l' := #[.val (.ref r), .val (.int (Int32.ofNat j)), .val (.ref b17)]) rfl ?_
    refine XS.aloadN X17.here hx rfl (own_hb hby d11_18) rfl rfl ?_
    refine XS.iconst X17.here hx rfl (own_hb hby d11_19) ?_
    refine XS.aloadN X17.here hx rfl (own_hb hby d11_20) rfl rfl ?_
    show Steps p.tables e below (T17.setTop (mkF m 21 #[.val (.ref r), .val (.int (Int32.ofNat j)), .val (.ref b17)] [(.ref b17), (.int (0 : Int32)), (.ref r)])) _
    refine XS.iconst X17.here hx rfl (own_hb hby d11_21) ?_
    refine XS.aloadN X17.here hx rfl (own_hb hby d11_22) rfl rfl ?_
    exact kt
  obtain ⟨cl23, Ar23, hln23⟩ := own_Ar.len f19
  refine own_Go.of (S' := (T17.setTop (mkF m 25 #[.val (.ref r), .val (.int (Int32.ofNat j)), .val (.ref b17)] [(.int (Int32.ofNat j)), (.int (Int32.ofNat k)), (.int (0 : Int32)), (.ref b17), (.int (0 : Int32)), (.ref r)]))) (fun t kt => ?_) ?_
  · show Steps p.tables e below (T17.setTop (mkF m 23 #[.val (.ref r), .val (.int (Int32.ofNat j)), .val (.ref b17)] [(.ref r), (.int (0 : Int32)), (.ref b17), (.int (0 : Int32)), (.ref r)])) _
    refine X17.arraylength hx (by rw [e17]; exact Ar23.1) (State.isArrayOf_alike hZ.alike Ar23.2.1) (g := (mkF m 23 #[.val (.ref r), .val (.int (Int32.ofNat j)), .val (.ref b17)] [(.ref r), (.int (0 : Int32)), (.ref b17), (.int (0 : Int32)), (.ref r)])) rfl rfl (own_hb hby d11_23) _ ?_
    rw [hln23]
    refine XS.iloadN X17.here hx rfl (own_hb hby d11_24) rfl ?_
    exact kt
  obtain ⟨_, _, ⟨T24, L24, k24, n24⟩, -, X24, ⟨Lc24, hQ24, l24, y24, z24⟩, st24⟩ := Jvm.LawKit.callS X17 hx (y := (⟨"java/lang/Math", "min", "(II)I"⟩ : MethodName)) hown (mvT hZ (hw _ (List.mem_of_getElem? (i := 75) rfl))) (mvT hZ (hw _ (List.mem_of_getElem? (i := 76) rfl))) (mvT hZ (hw _ (List.mem_of_getElem? (i := 60) rfl))) (mvT hZ (hw _ (List.mem_of_getElem? (i := 77) rfl))) (by decide) (backOf (W := 4) (rm12 l Z a0 hw [] k j h17 n0 z20 (by omega) (by omega)) hZ (hw _ (List.mem_of_getElem? (i := 77) rfl)) (hw _ (List.mem_of_getElem? (i := 60) rfl)) (by decide) (by decide)) (g := (mkF m 25 #[.val (.ref r), .val (.int (Int32.ofNat j)), .val (.ref b17)] [(.int (Int32.ofNat j)), (.int (Int32.ofNat k)), (.int (0 : Int32)), (.ref b17), (.int (0 : Int32)), (.ref r)])) rfl (by rw [hml]; rfl) (argsL := [(.int (Int32.ofNat k)), (.int (Int32.ofNat j))]) (rest := [(.int (0 : Int32)), (.ref b17), (.int (0 : Int32)), (.ref r)]) (lenOf pd_0 rfl) rfl (by show 2 * 0 + _ ≤ _; exact Nat.le_of_eq rfl) (own_hb hby d11_25) (fun _ _ => ⟨rfl, e17, (by decide : 1 + 0 ≤ _), (by decide : 8 + 0 ≤ _)⟩)
  dsimp only [Pt.U, Pt.locs, Pt.cells, Pt.slots] at X24 l24 y24 z24 st24 hQ24
  subst l24 y24 z24
  obtain ⟨rfl, N24q, hh24⟩ := hQ24
  have N24 := Fr.app N0 N24q
  refine own_Go.of (S' := (T24.setTop (mkF m 28 #[.val (.ref r), .val (.int (Int32.ofNat j)), .val (.ref b17)] [(.int (Int32.ofNat (min k j))), (.int (0 : Int32)), (.ref b17), (.int (0 : Int32)), (.ref r)]))) (fun t kt => st24 t kt) ?_
  refine own_Go.of (S' := (T24.setTop (mkF m 28 #[.val (.ref r), .val (.int (Int32.ofNat j)), .val (.ref b17)] [(.int (Int32.ofNat k)), (.int (0 : Int32)), (.ref b17), (.int (0 : Int32)), (.ref r)]))) (fun t kt => ?_) ?_
  · show Steps p.tables e below (T24.setTop (mkF m 28 #[.val (.ref r), .val (.int (Int32.ofNat j)), .val (.ref b17)] [(.int (Int32.ofNat (min k j))), (.int (0 : Int32)), (.ref b17), (.int (0 : Int32)), (.ref r)])) _
    rw [Nat.min_eq_left (Nat.le_of_lt hkj)]
    exact kt
  obtain ⟨T25, h25, L25, X25, e25, N25, K25, A25, st25⟩ := own_copy X24 hx hZ hown (hw _ (List.mem_of_getElem? (i := 78) rfl)) (hw _ (List.mem_of_getElem? (i := 81) rfl)) (hw _ (List.mem_of_getElem? (i := 79) rfl)) (hw _ (List.mem_of_getElem? (i := 80) rfl)) hh24 f19 f22 rfl (Nat.le_refl k) (Nat.le_of_lt hkj) N24 gx17 (g := (mkF m 28 #[.val (.ref r), .val (.int (Int32.ofNat j)), .val (.ref b17)] [(.int (Int32.ofNat k)), (.int (0 : Int32)), (.ref b17), (.int (0 : Int32)), (.ref r)])) rfl (by rw [hml]; rfl) rfl (own_hb hby d11_28) (by decide) (W := 0) (by show 2 * 0 + _ ≤ _; exact Nat.le_of_eq rfl) (by decide)
  refine own_Go.of (S' := (T25.setTop (mkF m 31 #[.val (.ref r), .val (.int (Int32.ofNat j)), .val (.ref b17)] []))) st25 ?_
  have f26 := f19.keep K25 (ninS ne18 nin0)
  have z27 := Nat.le_trans z20 K25.1
  have kp28 := kp21.trans K25 (allS (Or.inr sz17) all0)
  have fcp : own_Ar Z h25 b17 .boolean j (own_I (own_cpy g k)) := A25.eqv (fun i hi => by unfold own_I own_cpy; by_cases q : i < k <;> simp only [q, if_true, if_false])
  refine own_Go.of (S' := (T25.setTop (mkF m 32 #[.val (.ref r), .val (.int (Int32.ofNat j)), .val (.ref b17)] [(.ref b17)]))) (fun t kt => ?_) ?_
  · show Steps p.tables e below (T25.setTop (mkF m 31 #[.val (.ref r), .val (.int (Int32.ofNat j)), .val (.ref b17)] [])) _
    refine XS.aloadN X25.here hx rfl (own_hb hby d11_31) rfl rfl ?_
    exact kt
  exact own_retA X25 hx hlk hret rfl rfl (own_hb hby d11_32) e25 ⟨b17, rfl, N25, kp28, sz17, fcp⟩ (by decide) (by decide)
theorem d8_0 : decode prog_62_method_3_code 0 = .ok (.iload_n 1, 1) := by decide +kernel
theorem d8_1 : decode prog_62_method_3_code 1 = .ok (.ifCond .lt 8, 3) := by decide +kernel
theorem d8_4 : decode prog_62_method_3_code 4 = .ok (.iload_n 2, 1) := by decide +kernel
theorem d8_5 : decode prog_62_method_3_code 5 = .ok (.iload_n 1, 1) := by decide +kernel
theorem d8_6 : decode prog_62_method_3_code 6 = .ok (.if_icmp .ge 18, 3) := by decide +kernel
theorem d8_9 : decode prog_62_method_3_code 9 = .ok (.new 44, 3) := by decide +kernel
theorem d8_12 : decode prog_62_method_3_code 12 = .ok (.dup, 1) := by decide +kernel
theorem d8_13 : decode prog_62_method_3_code 13 = .ok (.iload_n 1, 1) := by decide +kernel
theorem d8_14 : decode prog_62_method_3_code 14 = .ok (.iload_n 2, 1) := by decide +kernel
theorem d8_20 : decode prog_62_method_3_code 20 = .ok (.invokespecial 50, 3) := by decide +kernel
theorem d8_23 : decode prog_62_method_3_code 23 = .ok (.athrow, 1) := by decide +kernel
theorem d8_24 : decode prog_62_method_3_code 24 = .ok (.aload_n 0, 1) := by decide +kernel
theorem d8_25 : decode prog_62_method_3_code 25 = .ok (.getfield 34, 3) := by decide +kernel
theorem d8_28 : decode prog_62_method_3_code 28 = .ok (.aload_n 0, 1) := by decide +kernel
theorem d8_29 : decode prog_62_method_3_code 29 = .ok (.getfield 13, 3) := by decide +kernel
theorem d8_32 : decode prog_62_method_3_code 32 = .ok (.arraylength, 1) := by decide +kernel
theorem d8_33 : decode prog_62_method_3_code 33 = .ok (.if_icmp .ne 37, 3) := by decide +kernel
theorem d8_36 : decode prog_62_method_3_code 36 = .ok (.aload_n 0, 1) := by decide +kernel
theorem d8_37 : decode prog_62_method_3_code 37 = .ok (.aload_n 0, 1) := by decide +kernel
theorem d8_38 : decode prog_62_method_3_code 38 = .ok (.getfield 13, 3) := by decide +kernel
theorem d8_41 : decode prog_62_method_3_code 41 = .ok (.iconst 2, 1) := by decide +kernel
theorem d8_42 : decode prog_62_method_3_code 42 = .ok (.aload_n 0, 1) := by decide +kernel
theorem d8_43 : decode prog_62_method_3_code 43 = .ok (.getfield 34, 3) := by decide +kernel
theorem d8_46 : decode prog_62_method_3_code 46 = .ok (.imul, 1) := by decide +kernel
theorem d8_47 : decode prog_62_method_3_code 47 = .ok (.invokestatic 53, 3) := by decide +kernel
theorem d8_50 : decode prog_62_method_3_code 50 = .ok (.putfield 13, 3) := by decide +kernel
theorem d8_53 : decode prog_62_method_3_code 53 = .ok (.aload_n 0, 1) := by decide +kernel
theorem d8_54 : decode prog_62_method_3_code 54 = .ok (.aload_n 0, 1) := by decide +kernel
theorem d8_55 : decode prog_62_method_3_code 55 = .ok (.getfield 17, 3) := by decide +kernel
theorem d8_58 : decode prog_62_method_3_code 58 = .ok (.iconst 2, 1) := by decide +kernel
theorem d8_59 : decode prog_62_method_3_code 59 = .ok (.aload_n 0, 1) := by decide +kernel
theorem d8_60 : decode prog_62_method_3_code 60 = .ok (.getfield 34, 3) := by decide +kernel
theorem d8_63 : decode prog_62_method_3_code 63 = .ok (.imul, 1) := by decide +kernel
theorem d8_64 : decode prog_62_method_3_code 64 = .ok (.invokestatic 53, 3) := by decide +kernel
theorem d8_67 : decode prog_62_method_3_code 67 = .ok (.putfield 17, 3) := by decide +kernel
theorem d8_70 : decode prog_62_method_3_code 70 = .ok (.aload_n 0, 1) := by decide +kernel
theorem d8_71 : decode prog_62_method_3_code 71 = .ok (.getfield 13, 3) := by decide +kernel
theorem d8_74 : decode prog_62_method_3_code 74 = .ok (.aload_n 0, 1) := by decide +kernel
theorem d8_75 : decode prog_62_method_3_code 75 = .ok (.getfield 34, 3) := by decide +kernel
theorem d8_78 : decode prog_62_method_3_code 78 = .ok (.iload_n 1, 1) := by decide +kernel
theorem d8_79 : decode prog_62_method_3_code 79 = .ok (.iastore, 1) := by decide +kernel
theorem d8_80 : decode prog_62_method_3_code 80 = .ok (.aload_n 0, 1) := by decide +kernel
theorem d8_81 : decode prog_62_method_3_code 81 = .ok (.getfield 17, 3) := by decide +kernel
theorem d8_84 : decode prog_62_method_3_code 84 = .ok (.aload_n 0, 1) := by decide +kernel
theorem d8_85 : decode prog_62_method_3_code 85 = .ok (.getfield 34, 3) := by decide +kernel
theorem d8_88 : decode prog_62_method_3_code 88 = .ok (.iload_n 2, 1) := by decide +kernel
theorem d8_89 : decode prog_62_method_3_code 89 = .ok (.iastore, 1) := by decide +kernel
theorem d8_90 : decode prog_62_method_3_code 90 = .ok (.aload_n 0, 1) := by decide +kernel
theorem d8_91 : decode prog_62_method_3_code 91 = .ok (.dup, 1) := by decide +kernel
theorem d8_92 : decode prog_62_method_3_code 92 = .ok (.getfield 34, 3) := by decide +kernel
theorem d8_95 : decode prog_62_method_3_code 95 = .ok (.iconst 1, 1) := by decide +kernel
theorem d8_96 : decode prog_62_method_3_code 96 = .ok (.iadd, 1) := by decide +kernel
theorem d8_97 : decode prog_62_method_3_code 97 = .ok (.putfield 34, 3) := by decide +kernel
theorem d8_100 : decode prog_62_method_3_code 100 = .ok (.aload_n 0, 1) := by decide +kernel
theorem d8_101 : decode prog_62_method_3_code 101 = .ok (.aload_n 0, 1) := by decide +kernel
theorem d8_102 : decode prog_62_method_3_code 102 = .ok (.getfield 37, 3) := by decide +kernel
theorem d8_105 : decode prog_62_method_3_code 105 = .ok (.iload_n 2, 1) := by decide +kernel
theorem d8_106 : decode prog_62_method_3_code 106 = .ok (.invokestatic 57, 3) := by decide +kernel
theorem d8_109 : decode prog_62_method_3_code 109 = .ok (.putfield 37, 3) := by decide +kernel
theorem d8_112 : decode prog_62_method_3_code 112 = .ok (.aload_n 0, 1) := by decide +kernel
theorem d8_113 : decode prog_62_method_3_code 113 = .ok (.iconst 0, 1) := by decide +kernel
theorem d8_114 : decode prog_62_method_3_code 114 = .ok (.putfield 40, 3) := by decide +kernel
theorem d8_117 : decode prog_62_method_3_code 117 = .ok (.return_, 1) := by decide +kernel
theorem pn_8 : plainName "com/example/quayside/quayside/Row" = true := by first | (simp [plainName, overriddenIn]; done) | decide +kernel
def Q_rm8s (Z : State) (o : Addr) (i : Nat) (j : Int32) (rs : Addr) (re : Addr) (k : Nat) (cap : Nat) (gs : Nat → Int32) (ge : Nat → Int32) (r : Int32) (tx : Int32) (bs : Addr) (nl : Value) (cn : Int32) (h0 : Heap) (n0 : Nat) (v : Option Value) (h : Heap) (L : List Loc) : Prop := v = none ∧ Fr n0 L ∧ Keep h0 h [o, rs, re] ∧ (Exa Z h o "com/example/quayside/quayside/Row") ∧ (Fld Z h o "com/example/quayside/quayside/Row" "starts" "[I" (.ref rs)) ∧ (Fld Z h o "com/example/quayside/quayside/Row" "ends" "[I" (.ref re)) ∧ (Fld Z h o "com/example/quayside/quayside/Row" "size" "I" (.int (Int32.ofNat (k + 1)))) ∧ (Fld Z h o "com/example/quayside/quayside/Row" "reach" "I" (.int (own_maxI r j))) ∧ (Fld Z h o "com/example/quayside/quayside/Row" "text" "Z" (.int (0 : Int32))) ∧ (Fld Z h o "com/example/quayside/quayside/Row" "bytes" "[B" (.ref bs)) ∧ (Fld Z h o "com/example/quayside/quayside/Row" "nulls" "[Z" nl) ∧ (Fld Z h o "com/example/quayside/quayside/Row" "nullCount" "I" (.int cn)) ∧ (own_Ar Z h rs .int cap (own_I (own_set gs k (Int32.ofNat i)))) ∧ (own_Ar Z h re .int cap (own_I (own_set ge k j)))
set_option maxRecDepth 65536 in
set_option maxHeartbeats 40000000 in
theorem rm8s (l : Launch) (Z : State) (a0 : Array Value) (hw : ∀ d ∈ tables_1, d.before a0 Z = true) (ws : List Jvm.Cond) (o : Addr) (i : Nat) (j : Int32) (rs : Addr) (re : Addr) (k : Nat) (cap : Nat) (gs : Nat → Int32) (ge : Nat → Int32) (r : Int32) (tx : Int32) (bs : Addr) (nl : Value) (cn : Int32) (h0 : Heap) (n0 : Nat) (Z0 : n0 ≤ h0.size) (pr0 : Exa Z h0 o "com/example/quayside/quayside/Row") (pr1 : Fld Z h0 o "com/example/quayside/quayside/Row" "starts" "[I" (.ref rs)) (pr2 : Fld Z h0 o "com/example/quayside/quayside/Row" "ends" "[I" (.ref re)) (pr3 : Fld Z h0 o "com/example/quayside/quayside/Row" "size" "I" (.int (Int32.ofNat k))) (pr4 : Fld Z h0 o "com/example/quayside/quayside/Row" "reach" "I" (.int r)) (pr5 : Fld Z h0 o "com/example/quayside/quayside/Row" "text" "Z" (.int tx)) (pr6 : Fld Z h0 o "com/example/quayside/quayside/Row" "bytes" "[B" (.ref bs)) (pr7 : Fld Z h0 o "com/example/quayside/quayside/Row" "nulls" "[Z" nl) (pr8 : Fld Z h0 o "com/example/quayside/quayside/Row" "nullCount" "I" (.int cn)) (pr9 : own_Ar Z h0 rs .int cap (own_I gs)) (pr10 : own_Ar Z h0 re .int cap (own_I ge)) (pr11 : n0 ≤ o) (pr12 : n0 ≤ rs) (pr13 : n0 ≤ re) (pr14 : o ≠ rs) (pr15 : o ≠ re) (pr16 : rs ≠ re) (hi : i < 2 ^ 31) (hij : ¬ j < Int32.ofNat i) (hk : k < cap) (hc : cap ≤ 8) :
    own_Met l Z h0 (⟨"com/example/quayside/quayside/Row", "add", "(II)V"⟩ : MethodName) prog_62_method_3_code 3 none ws ({ frames := 1, cells := 0, slots := 0, locals := 14 } : Room) #[(.ref o), (.int (Int32.ofNat i)), (.int j)] (Q_rm8s Z o i j rs re k cap gs ge r tx bs nl cn h0 n0) := by
  refine own_enter (plainFor_of_name pn_8) ?_
  intro p e s m below meth c T0 X0 hx hby hml hret hlk hown hnm hZ e0
  have N0 := Fr.nil n0
  have kp0 : Keep h0 h0 [o, rs, re] := Keep.refl h0 _
  rw [show entryFrame m #[(.ref o), (.int (Int32.ofNat i)), (.int j)] 3 = (mkF m 0 #[.val (.ref o), .val (.int (Int32.ofNat i)), .val (.int j)] []) from by first | (simp [entryFrame, mkF, argsToLocals, Value.category]; done) | rfl]
  refine own_Go.of (S' := (T0.setTop (mkF m 25 #[.val (.ref o), .val (.int (Int32.ofNat i)), .val (.int j)] [(.ref o)]))) (fun t kt => ?_) ?_
  · show Steps p.tables e below (T0.setTop (mkF m 0 #[.val (.ref o), .val (.int (Int32.ofNat i)), .val (.int j)] [])) _
    refine XS.iloadN X0.here hx rfl (own_hb hby d8_0) rfl ?_
    refine XS.ifNo X0.here hx rfl (own_hb hby d8_1) rfl ((if0 _ _).trans (flt (fun q => by have h2 := (own_ltN (b := 0) hi (by decide)).mp q; omega)).1) ?_
    refine XS.iloadN X0.here hx rfl (own_hb hby d8_4) rfl ?_
    refine XS.iloadN X0.here hx rfl (own_hb hby d8_5) rfl ?_
    show Steps p.tables e below (T0.setTop (mkF m 6 #[.val (.ref o), .val (.int (Int32.ofNat i)), .val (.int j)] [(.int (Int32.ofNat i)), (.int j)])) _
    refine XS.icmpYes X0.here hx rfl (pc0 := 6) (pc' := 24) rfl (own_hb hby d8_6) rfl (flt hij).2.1 (by decide) (by decide) ?_
    refine XS.aloadN X0.here hx rfl (own_hb hby d8_24) rfl rfl ?_
    exact kt
  obtain ⟨T29, X29, e29, st29⟩ := getF X0 hx hZ hown (host := "") (Or.inl (hw _ (List.mem_of_getElem? (i := 56) rfl))) Via.refl e0 pr3 (g := (mkF m 25 #[.val (.ref o), .val (.int (Int32.ofNat i)), .val (.int j)] [(.ref o)])) rfl rfl (own_hb hby d8_25)
  refine own_Go.of (S' := (T29.setTop (mkF m 28 #[.val (.ref o), .val (.int (Int32.ofNat i)), .val (.int j)] [(.int (Int32.ofNat k))]))) st29 ?_
  refine own_Go.of (S' := (T29.setTop (mkF m 29 #[.val (.ref o), .val (.int (Int32.ofNat i)), .val (.int j)] [(.ref o), (.int (Int32.ofNat k))]))) (fun t kt => ?_) ?_
  · show Steps p.tables e below (T29.setTop (mkF m 28 #[.val (.ref o), .val (.int (Int32.ofNat i)), .val (.int j)] [(.int (Int32.ofNat k))])) _
    refine XS.aloadN X29.here hx rfl (own_hb hby d8_28) rfl rfl ?_
    exact kt
  obtain ⟨T30, X30, e30, st30⟩ := getF X29 hx hZ hown (host := "") (Or.inl (hw _ (List.mem_of_getElem? (i := 17) rfl))) Via.refl e29 pr1 (g := (mkF m 29 #[.val (.ref o), .val (.int (Int32.ofNat i)), .val (.int j)] [(.ref o), (.int (Int32.ofNat k))])) rfl rfl (own_hb hby d8_29)
  refine own_Go.of (S' := (T30.setTop (mkF m 32 #[.val (.ref o), .val (.int (Int32.ofNat i)), .val (.int j)] [(.ref rs), (.int (Int32.ofNat k))]))) st30 ?_
  obtain ⟨cl31, Ar31, hln31⟩ := own_Ar.len pr9
  refine own_Go.of (S' := (T30.setTop (mkF m 71 #[.val (.ref o), .val (.int (Int32.ofNat i)), .val (.int j)] [(.ref o)]))) (fun t kt => ?_) ?_
  · show Steps p.tables e below (T30.setTop (mkF m 32 #[.val (.ref o), .val (.int (Int32.ofNat i)), .val (.int j)] [(.ref rs), (.int (Int32.ofNat k))])) _
    refine X30.arraylength hx (by rw [e30]; exact Ar31.1) (State.isArrayOf_alike hZ.alike Ar31.2.1) (g := (mkF m 32 #[.val (.ref o), .val (.int (Int32.ofNat i)), .val (.int j)] [(.ref rs), (.int (Int32.ofNat k))])) rfl rfl (own_hb hby d8_32) _ ?_
    rw [hln31]
    refine XS.icmpYes X30.here hx rfl (pc0 := 33) (pc' := 70) rfl (own_hb hby d8_33) rfl (feq (fun q => by have h2 := (own_eqN (by omega) (by omega)).mp q; omega)).2 (by decide) (by decide) ?_
    refine XS.aloadN X30.here hx rfl (own_hb hby d8_70) rfl rfl ?_
    exact kt
  obtain ⟨T32, X32, e32, st32⟩ := getF X30 hx hZ hown (host := "") (Or.inl (hw _ (List.mem_of_getElem? (i := 17) rfl))) Via.refl e30 pr1 (g := (mkF m 71 #[.val (.ref o), .val (.int (Int32.ofNat i)), .val (.int j)] [(.ref o)])) rfl rfl (own_hb hby d8_71)
  refine own_Go.of (S' := (T32.setTop (mkF m 74 #[.val (.ref o), .val (.int (Int32.ofNat i)), .val (.int j)] [(.ref rs)]))) st32 ?_
  refine own_Go.of (S' := (T32.setTop (mkF m 75 #[.val (.ref o), .val (.int (Int32.ofNat i)), .val (.int j)] [(.ref o), (.ref rs)]))) (fun t kt => ?_) ?_
  · show Steps p.tables e below (T32.setTop (mkF m 74 #[.val (.ref o), .val (.int (Int32.ofNat i)), .val (.int j)] [(.ref rs)])) _
    refine XS.aloadN X32.here hx rfl (own_hb hby d8_74) rfl rfl ?_
    exact kt
  obtain ⟨T33, X33, e33, st33⟩ := getF X32 hx hZ hown (host := "") (Or.inl (hw _ (List.mem_of_getElem? (i := 56) rfl))) Via.refl e32 pr3 (g := (mkF m 75 #[.val (.ref o), .val (.int (Int32.ofNat i)), .val (.int j)] [(.ref o), (.ref rs)])) rfl rfl (own_hb hby d8_75)
  refine own_Go.of (S' := (T33.setTop (mkF m 78 #[.val (.ref o), .val (.int (Int32.ofNat i)), .val (.int j)] [(.int (Int32.ofNat k)), (.ref rs)]))) st33 ?_
  refine own_Go.of (S' := (T33.setTop (mkF m 79 #[.val (.ref o), .val (.int (Int32.ofNat i)), .val (.int j)] [(.int (Int32.ofNat i)), (.int (Int32.ofNat k)), (.ref rs)]))) (fun t kt => ?_) ?_
  · show Steps p.tables e below (T33.setTop (mkF m 78 #[.val (.ref o), .val (.int (Int32.ofNat i)), .val (.int j)] [(.int (Int32.ofNat k)), (.ref rs)])) _
    refine XS.iloadN X33.here hx rfl (own_hb hby d8_78) rfl ?_
    exact kt
  obtain ⟨cl34, Ar34, hin34, ub34⟩ := own_Ar.put (j := (Int32.ofNat k)) (k := k) pr9 ⟨rfl, by omega⟩
  obtain ⟨T34, h34, X34, e34, W34, st34⟩ := stI X33 hx hZ e33 Ar34 (j := (Int32.ofNat k)) hin34 (g := (mkF m 79 #[.val (.ref o), .val (.int (Int32.ofNat i)), .val (.int j)] [(.int (Int32.ofNat i)), (.int (Int32.ofNat k)), (.ref rs)])) rfl rfl (own_hb hby d8_79)
  refine own_Go.of (S' := (T34.setTop (mkF m 80 #[.val (.ref o), .val (.int (Int32.ofNat i)), .val (.int j)] []))) st34 ?_
  have f35 := pr0.wr W34
  have f36 := pr1.other W34 (Or.inl pr14)
  have f37 := pr2.other W34 (Or.inl pr14)
  have f38 := pr3.other W34 (Or.inl pr14)
  have f39 := pr4.other W34 (Or.inl pr14)
  have f40 := pr5.other W34 (Or.inl pr14)
  have f41 := pr6.other W34 (Or.inl pr14)
  have f42 := pr7.other W34 (Or.inl pr14)
  have f43 := pr8.other W34 (Or.inl pr14)
  have f44 := pr10.other W34 (Ne.symm pr16)
  have z45 := Nat.le_trans Z0 (Keep.of_wr W34).1
  have kp46 := kp0.wr W34 (Or.inl (List.mem_of_getElem? (i := 1) rfl))
  have f47 : own_Ar Z h34 rs .int cap (own_I (own_set gs k (Int32.ofNat i))) := by rw [← own_upI]; exact ub34 rfl W34
  have N34 := Fr.snoc X34 N0 pr12
  refine own_Go.of (S' := (T34.setTop (mkF m 81 #[.val (.ref o), .val (.int (Int32.ofNat i)), .val (.int j)] [(.ref o)]))) (fun t kt => ?_) ?_
  · show Steps p.tables e below (T34.setTop (mkF m 80 #[.val (.ref o), .val (.int (Int32.ofNat i)), .val (.int j)] [])) _
    refine XS.aloadN X34.here hx rfl (own_hb hby d8_80) rfl rfl ?_
    exact kt
  obtain ⟨T48, X48, e48, st48⟩ := getF X34 hx hZ hown (host := "") (Or.inl (hw _ (List.mem_of_getElem? (i := 19) rfl))) Via.refl e34 f37 (g := (mkF m 81 #[.val (.ref o), .val (.int (Int32.ofNat i)), .val (.int j)] [(.ref o)])) rfl rfl (own_hb hby d8_81)
  refine own_Go.of (S' := (T48.setTop (mkF m 84 #[.val (.ref o), .val (.int (Int32.ofNat i)), .val (.int j)] [(.ref re)]))) st48 ?_
  refine own_Go.of (S' := (T48.setTop (mkF m 85 #[.val (.ref o), .val (.int (Int32.ofNat i)), .val (.int j)] [(.ref o), (.ref re)]))) (fun t kt => ?_) ?_
  · show Steps p.tables e below (T48.setTop (mkF m 84 #[.val (.ref o), .val (.int (Int32.ofNat i)), .val (.int j)] [(.ref re)])) _
    refine XS.aloadN X48.here hx rfl (own_hb hby d8_84) rfl rfl ?_
    exact kt
  obtain ⟨T49, X49, e49, st49⟩ := getF X48 hx hZ hown (host := "") (Or.inl (hw _ (List.mem_of_getElem? (i := 56) rfl))) Via.refl e48 f38 (g := (mkF m 85 #[.val (.ref o), .val (.int (Int32.ofNat i)), .val (.int j)] [(.ref o), (.ref re)])) rfl rfl (own_hb hby d8_85)
  refine own_Go.of (S' := (T49.setTop (mkF m 88 #[.val (.ref o), .val (.int (Int32.ofNat i)), .val (.int j)] [(.int (Int32.ofNat k)), (.ref re)]))) st49 ?_
  refine own_Go.of (S' := (T49.setTop (mkF m 89 #[.val (.ref o), .val (.int (Int32.ofNat i)), .val (.int j)] [(.int j), (.int (Int32.ofNat k)), (.ref re)]))) (fun t kt => ?_) ?_
  · show Steps p.tables e below (T49.setTop (mkF m 88 #[.val (.ref o), .val (.int (Int32.ofNat i)), .val (.int j)] [(.int (Int32.ofNat k)), (.ref re)])) _
    refine XS.iloadN X49.here hx rfl (own_hb hby d8_88) rfl ?_
    exact kt
  obtain ⟨cl50, Ar50, hin50, ub50⟩ := own_Ar.put (j := (Int32.ofNat k)) (k := k) f44 ⟨rfl, by omega⟩
  obtain ⟨T50, h50, X50, e50, W50, st50⟩ := stI X49 hx hZ e49 Ar50 (j := (Int32.ofNat k)) hin50 (g := (mkF m 89 #[.val (.ref o), .val (.int (Int32.ofNat i)), .val (.int j)] [(.int j), (.int (Int32.ofNat k)), (.ref re)])) rfl rfl (own_hb hby d8_89)
  refine own_Go.of (S' := (T50.setTop (mkF m 90 #[.val (.ref o), .val (.int (Int32.ofNat i)), .val (.int j)] []))) st50 ?_
  have f51 := f35.wr W50
  have f52 := f36.other W50 (Or.inl pr15)
  have f53 := f37.other W50 (Or.inl pr15)
  have f54 := f38.other W50 (Or.inl pr15)
  have f55 := f39.other W50 (Or.inl pr15)
  have f56 := f40.other W50 (Or.inl pr15)
  have f57 := f41.other W50 (Or.inl pr15)
  have f58 := f42.other W50 (Or.inl pr15)
  have f59 := f43.other W50 (Or.inl pr15)
  have f60 := f47.other W50 pr16
  have z61 := Nat.le_trans z45 (Keep.of_wr W50).1
  have kp62 := kp46.wr W50 (Or.inl (List.mem_of_getElem? (i := 2) rfl))
  have f63 : own_Ar Z h50 re .int cap (own_I (own_set ge k j)) := by rw [← own_upI]; exact ub50 rfl W50
  have N50 := Fr.snoc X50 N34 pr13
  refine own_Go.of (S' := (T50.setTop (mkF m 92 #[.val (.ref o), .val (.int (Int32.ofNat i)), .val (.int j)] [(.ref o), (.ref o)]))) (fun t kt => ?_) ?_
  · show Steps p.tables e below (T50.setTop (mkF m 90 #[.val (.ref o), .val (.int (Int32.ofNat i)), .val (.int j)] [])) _
    refine XS.aloadN X50.here hx rfl (own_hb hby d8_90) rfl rfl ?_
    refine XS.dup X50.here hx rfl (own_hb hby d8_91) rfl rfl ?_
    exact kt
  obtain ⟨T64, X64, e64, st64⟩ := getF X50 hx hZ hown (host := "") (Or.inl (hw _ (List.mem_of_getElem? (i := 56) rfl))) Via.refl e50 f54 (g := (mkF m 92 #[.val (.ref o), .val (.int (Int32.ofNat i)), .val (.int j)] [(.ref o), (.ref o)])) rfl rfl (own_hb hby d8_92)
  refine own_Go.of (S' := (T64.setTop (mkF m 95 #[.val (.ref o), .val (.int (Int32.ofNat i)), .val (.int j)] [(.int (Int32.ofNat k)), (.ref o)]))) st64 ?_
  refine own_Go.of (S' := (T64.setTop (mkF m 97 #[.val (.ref o), .val (.int (Int32.ofNat i)), .val (.int j)] [(.int (Int32.ofNat (k + 1))), (.ref o)]))) (fun t kt => ?_) ?_
  · show Steps p.tables e below (T64.setTop (mkF m 95 #[.val (.ref o), .val (.int (Int32.ofNat i)), .val (.int j)] [(.int (Int32.ofNat k)), (.ref o)])) _
    refine XS.iconst X64.here hx rfl (own_hb hby d8_95) ?_
    refine XS.iadd X64.here hx rfl (own_hb hby d8_96) rfl ?_
    show Steps p.tables e below (T64.setTop (mkF m 97 #[.val (.ref o), .val (.int (Int32.ofNat i)), .val (.int j)] [(.int ((Int32.ofNat k) + (1 : Int32))), (.ref o)])) _
    rw [show Int32.ofNat k + (1 : Int32) = Int32.ofNat (k + 1) from own_addN k 1]
    exact kt
  obtain ⟨T65, h65, X65, e65, W65, st65⟩ := putF X64 hx hZ hown (host := "") (Or.inl (hw _ (List.mem_of_getElem? (i := 56) rfl))) Via.refl e64 f54 f51 (Or.inl (hw _ (List.mem_of_getElem? (i := 57) rfl))) (hw _ (List.mem_of_getElem? (i := 6) rfl)) (ty := .int) (by decide) rfl rfl (g := (mkF m 97 #[.val (.ref o), .val (.int (Int32.ofNat i)), .val (.int j)] [(.int (Int32.ofNat (k + 1))), (.ref o)])) rfl rfl (own_hb hby d8_97)
  refine own_Go.of (S' := (T65.setTop (mkF m 100 #[.val (.ref o), .val (.int (Int32.ofNat i)), .val (.int j)] []))) st65 ?_
  have f66 := f51.wr W65
  have f67 := f52.other W65 (Or.inr (slot_ne (Or.inl (hw _ (List.mem_of_getElem? (i := 18) rfl))) (Or.inl (hw _ (List.mem_of_getElem? (i := 57) rfl))) (by decide) (t := (.array .int)) (t' := .int) (by decide) (by decide)))
  have f68 := f53.other W65 (Or.inr (slot_ne (Or.inl (hw _ (List.mem_of_getElem? (i := 20) rfl))) (Or.inl (hw _ (List.mem_of_getElem? (i := 57) rfl))) (by decide) (t := (.array .int)) (t' := .int) (by decide) (by decide)))
  have f69 := f55.other W65 (Or.inr (slot_ne (Or.inl (hw _ (List.mem_of_getElem? (i := 50) rfl))) (Or.inl (hw _ (List.mem_of_getElem? (i := 57) rfl))) (by decide) (t := .int) (t' := .int) (by decide) (by decide)))
  have f70 := f56.other W65 (Or.inr (slot_ne (Or.inl (hw _ (List.mem_of_getElem? (i := 40) rfl))) (Or.inl (hw _ (List.mem_of_getElem? (i := 57) rfl))) (by decide) (t := .boolean) (t' := .int) (by decide) (by decide)))
  have f71 := f57.other W65 (Or.inr (slot_ne (Or.inl (hw _ (List.mem_of_getElem? (i := 15) rfl))) (Or.inl (hw _ (List.mem_of_getElem? (i := 57) rfl))) (by decide) (t := (.array .byte)) (t' := .int) (by decide) (by decide)))
  have f72 := f58.other W65 (Or.inr (slot_ne (Or.inl (hw _ (List.mem_of_getElem? (i := 69) rfl))) (Or.inl (hw _ (List.mem_of_getElem? (i := 57) rfl))) (by decide) (t := (.array .boolean)) (t' := .int) (by decide) (by decide)))
  have f73 := f59.other W65 (Or.inr (slot_ne (Or.inl (hw _ (List.mem_of_getElem? (i := 83) rfl))) (Or.inl (hw _ (List.mem_of_getElem? (i := 57) rfl))) (by decide) (t := .int) (t' := .int) (by decide) (by decide)))
  have f74 := f60.other W65 (Ne.symm pr14)
  have f75 := f63.other W65 (Ne.symm pr15)
  have z76 := Nat.le_trans z61 (Keep.of_wr W65).1
  have kp77 := kp62.wr W65 (Or.inl (List.mem_of_getElem? (i := 0) rfl))
  have f78 : Fld Z h65 o "com/example/quayside/quayside/Row" "size" "I" (.int (Int32.ofNat (k + 1))) := f54.same W65
  have N65 := Fr.snoc X65 N50 pr11
  refine own_Go.of (S' := (T65.setTop (mkF m 102 #[.val (.ref o), .val (.int (Int32.ofNat i)), .val (.int j)] [(.ref o), (.ref o)]))) (fun t kt => ?_) ?_
  · show Steps p.tables e below (T65.setTop (mkF m 100 #[.val (.ref o), .val (.int (Int32.ofNat i)), .val (.int j)] [])) _
    refine XS.aloadN X65.here hx rfl (own_hb hby d8_100) rfl rfl ?_
    refine XS.aloadN X65.here hx rfl (own_hb hby d8_101) rfl rfl ?_
    exact kt
  obtain ⟨T79, X79, e79, st79⟩ := getF X65 hx hZ hown (host := "") (Or.inl (hw _ (List.mem_of_getElem? (i := 49) rfl))) Via.refl e65 f69 (g := (mkF m 102 #[.val (.ref o), .val (.int (Int32.ofNat i)), .val (.int j)] [(.ref o), (.ref o)])) rfl rfl (own_hb hby d8_102)
  refine own_Go.of (S' := (T79.setTop (mkF m 105 #[.val (.ref o), .val (.int (Int32.ofNat i)), .val (.int j)] [(.int r), (.ref o)]))) st79 ?_
  refine own_Go.of (S' := (T79.setTop (mkF m 106 #[.val (.ref o), .val (.int (Int32.ofNat i)), .val (.int j)] [(.int j), (.int r), (.ref o)]))) (fun t kt => ?_) ?_
  · show Steps p.tables e below (T79.setTop (mkF m 105 #[.val (.ref o), .val (.int (Int32.ofNat i)), .val (.int j)] [(.int r), (.ref o)])) _
    refine XS.iloadN X79.here hx rfl (own_hb hby d8_105) rfl ?_
    exact kt
  obtain ⟨_, _, ⟨T80, L80, k80, n80⟩, -, X80, ⟨Lc80, hQ80, l80, y80, z80⟩, st80⟩ := Jvm.LawKit.callS X79 hx (y := (⟨"java/lang/Math", "max", "(II)I"⟩ : MethodName)) hown (mvT hZ (hw _ (List.mem_of_getElem? (i := 58) rfl))) (mvT hZ (hw _ (List.mem_of_getElem? (i := 59) rfl))) (mvT hZ (hw _ (List.mem_of_getElem? (i := 60) rfl))) (mvT hZ (hw _ (List.mem_of_getElem? (i := 61) rfl))) (by decide) (backOf (W := 1) (rm9 l Z a0 hw [] r j h65 n0 z76 ) hZ (hw _ (List.mem_of_getElem? (i := 61) rfl)) (hw _ (List.mem_of_getElem? (i := 60) rfl)) (by decide) (by decide)) (g := (mkF m 106 #[.val (.ref o), .val (.int (Int32.ofNat i)), .val (.int j)] [(.int j), (.int r), (.ref o)])) rfl (by rw [hml]; rfl) (argsL := [(.int r), (.int j)]) (rest := [(.ref o)]) (lenOf pd_0 rfl) rfl (by show 2 * 0 + _ ≤ _; exact Nat.le_of_eq rfl) (own_hb hby d8_106) (fun _ _ => ⟨rfl, e79, (by decide : 0 + 0 ≤ _), (by decide : 0 + 0 ≤ _)⟩)
  dsimp only [Pt.U, Pt.locs, Pt.cells, Pt.slots] at X80 l80 y80 z80 st80 hQ80
  subst l80 y80 z80
  obtain ⟨rfl, N80q, hh80⟩ := hQ80
  have N80 := Fr.app N65 N80q
  refine own_Go.of (S' := (T80.setTop (mkF m 109 #[.val (.ref o), .val (.int (Int32.ofNat i)), .val (.int j)] [(.int (own_maxI r j)), (.ref o)]))) (fun t kt => st80 t kt) ?_
  obtain ⟨T81, h81, X81, e81, W81, st81⟩ := putF X80 hx hZ hown (host := "") (Or.inl (hw _ (List.mem_of_getElem? (i := 49) rfl))) Via.refl hh80 f69 f66 (Or.inl (hw _ (List.mem_of_getElem? (i := 50) rfl))) (hw _ (List.mem_of_getElem? (i := 6) rfl)) (ty := .int) (by decide) rfl rfl (g := (mkF m 109 #[.val (.ref o), .val (.int (Int32.ofNat i)), .val (.int j)] [(.int (own_maxI r j)), (.ref o)])) rfl rfl (own_hb hby d8_109)
  refine own_Go.of (S' := (T81.setTop (mkF m 112 #[.val (.ref o), .val (.int (Int32.ofNat i)), .val (.int j)] []))) st81 ?_
  have f82 := f66.wr W81
  have f83 := f67.other W81 (Or.inr (slot_ne (Or.inl (hw _ (List.mem_of_getElem? (i := 18) rfl))) (Or.inl (hw _ (List.mem_of_getElem? (i := 50) rfl))) (by decide) (t := (.array .int)) (t' := .int) (by decide) (by decide)))
  have f84 := f68.other W81 (Or.inr (slot_ne (Or.inl (hw _ (List.mem_of_getElem? (i := 20) rfl))) (Or.inl (hw _ (List.mem_of_getElem? (i := 50) rfl))) (by decide) (t := (.array .int)) (t' := .int) (by decide) (by decide)))
  have f85 := f78.other W81 (Or.inr (slot_ne (Or.inl (hw _ (List.mem_of_getElem? (i := 57) rfl))) (Or.inl (hw _ (List.mem_of_getElem? (i := 50) rfl))) (by decide) (t := .int) (t' := .int) (by decide) (by decide)))
  have f86 := f70.other W81 (Or.inr (slot_ne (Or.inl (hw _ (List.mem_of_getElem? (i := 40) rfl))) (Or.inl (hw _ (List.mem_of_getElem? (i := 50) rfl))) (by decide) (t := .boolean) (t' := .int) (by decide) (by decide)))
  have f87 := f71.other W81 (Or.inr (slot_ne (Or.inl (hw _ (List.mem_of_getElem? (i := 15) rfl))) (Or.inl (hw _ (List.mem_of_getElem? (i := 50) rfl))) (by decide) (t := (.array .byte)) (t' := .int) (by decide) (by decide)))
  have f88 := f72.other W81 (Or.inr (slot_ne (Or.inl (hw _ (List.mem_of_getElem? (i := 69) rfl))) (Or.inl (hw _ (List.mem_of_getElem? (i := 50) rfl))) (by decide) (t := (.array .boolean)) (t' := .int) (by decide) (by decide)))
  have f89 := f73.other W81 (Or.inr (slot_ne (Or.inl (hw _ (List.mem_of_getElem? (i := 83) rfl))) (Or.inl (hw _ (List.mem_of_getElem? (i := 50) rfl))) (by decide) (t := .int) (t' := .int) (by decide) (by decide)))
  have f90 := f74.other W81 (Ne.symm pr14)
  have f91 := f75.other W81 (Ne.symm pr15)
  have z92 := Nat.le_trans z76 (Keep.of_wr W81).1
  have kp93 := kp77.wr W81 (Or.inl (List.mem_of_getElem? (i := 0) rfl))
  have f94 : Fld Z h81 o "com/example/quayside/quayside/Row" "reach" "I" (.int (own_maxI r j)) := f69.same W81
  have N81 := Fr.snoc X81 N80 pr11
  refine own_Go.of (S' := (T81.setTop (mkF m 114 #[.val (.ref o), .val (.int (Int32.ofNat i)), .val (.int j)] [(.int (0 : Int32)), (.ref o)]))) (fun t kt => ?_) ?_
  · show Steps p.tables e below (T81.setTop (mkF m 112 #[.val (.ref o), .val (.int (Int32.ofNat i)), .val (.int j)] [])) _
    refine XS.aloadN X81.here hx rfl (own_hb hby d8_112) rfl rfl ?_
    refine XS.iconst X81.here hx rfl (own_hb hby d8_113) ?_
    exact kt
  obtain ⟨T95, h95, X95, e95, W95, st95⟩ := putFN X81 hx hZ hown (hw _ (List.mem_of_getElem? (i := 39) rfl)) Via.refl e81 f86 f82 (Or.inl (hw _ (List.mem_of_getElem? (i := 40) rfl))) (hw _ (List.mem_of_getElem? (i := 6) rfl)) (ty := .boolean) (v' := (.int (nar .boolean (0 : Int32)))) (by decide) rfl (fits_nar_bool _) (g := (mkF m 114 #[.val (.ref o), .val (.int (Int32.ofNat i)), .val (.int j)] [(.int (0 : Int32)), (.ref o)])) rfl rfl (own_hb hby d8_114)
  refine own_Go.of (S' := (T95.setTop (mkF m 117 #[.val (.ref o), .val (.int (Int32.ofNat i)), .val (.int j)] []))) st95 ?_
  have f96 := f82.wr W95
  have f97 := f83.other W95 (Or.inr (slot_ne (Or.inl (hw _ (List.mem_of_getElem? (i := 18) rfl))) (Or.inl (hw _ (List.mem_of_getElem? (i := 40) rfl))) (by decide) (t := (.array .int)) (t' := .boolean) (by decide) (by decide)))
  have f98 := f84.other W95 (Or.inr (slot_ne (Or.inl (hw _ (List.mem_of_getElem? (i := 20) rfl))) (Or.inl (hw _ (List.mem_of_getElem? (i := 40) rfl))) (by decide) (t := (.array .int)) (t' := .boolean) (by decide) (by decide)))
  have f99 := f85.other W95 (Or.inr (slot_ne (Or.inl (hw _ (List.mem_of_getElem? (i := 57) rfl))) (Or.inl (hw _ (List.mem_of_getElem? (i := 40) rfl))) (by decide) (t := .int) (t' := .boolean) (by decide) (by decide)))
  have f100 := f94.other W95 (Or.inr (slot_ne (Or.inl (hw _ (List.mem_of_getElem? (i := 50) rfl))) (Or.inl (hw _ (List.mem_of_getElem? (i := 40) rfl))) (by decide) (t := .int) (t' := .boolean) (by decide) (by decide)))
  have f101 := f87.other W95 (Or.inr (slot_ne (Or.inl (hw _ (List.mem_of_getElem? (i := 15) rfl))) (Or.inl (hw _ (List.mem_of_getElem? (i := 40) rfl))) (by decide) (t := (.array .byte)) (t' := .boolean) (by decide) (by decide)))
  have f102 := f88.other W95 (Or.inr (slot_ne (Or.inl (hw _ (List.mem_of_getElem? (i := 69) rfl))) (Or.inl (hw _ (List.mem_of_getElem? (i := 40) rfl))) (by decide) (t := (.array .boolean)) (t' := .boolean) (by decide) (by decide)))
  have f103 := f89.other W95 (Or.inr (slot_ne (Or.inl (hw _ (List.mem_of_getElem? (i := 83) rfl))) (Or.inl (hw _ (List.mem_of_getElem? (i := 40) rfl))) (by decide) (t := .int) (t' := .boolean) (by decide) (by decide)))
  have f104 := f90.other W95 (Ne.symm pr14)
  have f105 := f91.other W95 (Ne.symm pr15)
  have z106 := Nat.le_trans z92 (Keep.of_wr W95).1
  have kp107 := kp93.wr W95 (Or.inl (List.mem_of_getElem? (i := 0) rfl))
  have f108 : Fld Z h95 o "com/example/quayside/quayside/Row" "text" "Z" (.int (nar .boolean (0 : Int32))) := f86.same W95
  have N95 := Fr.snoc X95 N81 pr11
  have f109 : Fld Z h95 o "com/example/quayside/quayside/Row" "text" "Z" (.int (0 : Int32)) := f108
  exact own_retV X95 hx hlk hret (own_hb hby d8_117) e95 ⟨rfl, N95, kp107, f96, f97, f98, f99, f100, f109, f101, f102, f103, f104, f105⟩ (by decide) (by decide)
theorem pd_1 : parseMethodDescriptor "([II)[I" = some ⟨[(.array .int), .int], some (.array .int)⟩ := by decide +kernel
def Q_rm8g (Z : State) (o : Addr) (i : Nat) (j : Int32) (rs : Addr) (re : Addr) (k : Nat) (cap : Nat) (gs : Nat → Int32) (ge : Nat → Int32) (r : Int32) (tx : Int32) (bs : Addr) (nl : Value) (cn : Int32) (h0 : Heap) (n0 : Nat) (v : Option Value) (h : Heap) (L : List Loc) : Prop := ∃ rs' : Addr, ∃ re' : Addr, v = none ∧ Fr n0 L ∧ Keep h0 h [o] ∧ (h0.size ≤ rs') ∧ (h0.size ≤ re') ∧ (rs' ≠ re') ∧ (Exa Z h o "com/example/quayside/quayside/Row") ∧ (Fld Z h o "com/example/quayside/quayside/Row" "starts" "[I" (.ref rs')) ∧ (Fld Z h o "com/example/quayside/quayside/Row" "ends" "[I" (.ref re')) ∧ (Fld Z h o "com/example/quayside/quayside/Row" "size" "I" (.int (Int32.ofNat (k + 1)))) ∧ (Fld Z h o "com/example/quayside/quayside/Row" "reach" "I" (.int (own_maxI r j))) ∧ (Fld Z h o "com/example/quayside/quayside/Row" "text" "Z" (.int (0 : Int32))) ∧ (Fld Z h o "com/example/quayside/quayside/Row" "bytes" "[B" (.ref bs)) ∧ (Fld Z h o "com/example/quayside/quayside/Row" "nulls" "[Z" nl) ∧ (Fld Z h o "com/example/quayside/quayside/Row" "nullCount" "I" (.int cn)) ∧ (own_Ar Z h rs' .int (2 * k) (own_I (own_set (own_cpy gs cap) k (Int32.ofNat i)))) ∧ (own_Ar Z h re' .int (2 * k) (own_I (own_set (own_cpy ge cap) k j)))
set_option maxRecDepth 65536 in
set_option maxHeartbeats 40000000 in
theorem rm8g (l : Launch) (Z : State) (a0 : Array Value) (hw : ∀ d ∈ tables_1, d.before a0 Z = true) (ws : List Jvm.Cond) (o : Addr) (i : Nat) (j : Int32) (rs : Addr) (re : Addr) (k : Nat) (cap : Nat) (gs : Nat → Int32) (ge : Nat → Int32) (r : Int32) (tx : Int32) (bs : Addr) (nl : Value) (cn : Int32) (h0 : Heap) (n0 : Nat) (Z0 : n0 ≤ h0.size) (pr0 : Exa Z h0 o "com/example/quayside/quayside/Row") (pr1 : Fld Z h0 o "com/example/quayside/quayside/Row" "starts" "[I" (.ref rs)) (pr2 : Fld Z h0 o "com/example/quayside/quayside/Row" "ends" "[I" (.ref re)) (pr3 : Fld Z h0 o "com/example/quayside/quayside/Row" "size" "I" (.int (Int32.ofNat k))) (pr4 : Fld Z h0 o "com/example/quayside/quayside/Row" "reach" "I" (.int r)) (pr5 : Fld Z h0 o "com/example/quayside/quayside/Row" "text" "Z" (.int tx)) (pr6 : Fld Z h0 o "com/example/quayside/quayside/Row" "bytes" "[B" (.ref bs)) (pr7 : Fld Z h0 o "com/example/quayside/quayside/Row" "nulls" "[Z" nl) (pr8 : Fld Z h0 o "com/example/quayside/quayside/Row" "nullCount" "I" (.int cn)) (pr9 : own_Ar Z h0 rs .int cap (own_I gs)) (pr10 : own_Ar Z h0 re .int cap (own_I ge)) (pr11 : n0 ≤ o) (pr12 : n0 ≤ rs) (pr13 : n0 ≤ re) (pr14 : o ≠ rs) (pr15 : o ≠ re) (pr16 : rs ≠ re) (hi : i < 2 ^ 31) (hij : ¬ j < Int32.ofNat i) (hk : k = cap) (hc : cap = 4) :
    own_Met l Z h0 (⟨"com/example/quayside/quayside/Row", "add", "(II)V"⟩ : MethodName) prog_62_method_3_code 3 none ws ({ frames := 2, cells := 2, slots := 16, locals := 33 } : Room) #[(.ref o), (.int (Int32.ofNat i)), (.int j)] (Q_rm8g Z o i j rs re k cap gs ge r tx bs nl cn h0 n0) := by
  refine own_enter (plainFor_of_name pn_8) ?_
  intro p e s m below meth c T0 X0 hx hby hml hret hlk hown hnm hZ e0
  have N0 := Fr.nil n0
  have kp0 : Keep h0 h0 [o] := Keep.refl h0 _
  rw [show entryFrame m #[(.ref o), (.int (Int32.ofNat i)), (.int j)] 3 = (mkF m 0 #[.val (.ref o), .val (.int (Int32.ofNat i)), .val (.int j)] []) from by first | (simp [entryFrame, mkF, argsToLocals, Value.category]; done) | rfl]
  refine own_Go.of (S' := (T0.setTop (mkF m 25 #[.val (.ref o), .val (.int (Int32.ofNat i)), .val (.int j)] [(.ref o)]))) (fun t kt => ?_) ?_
  · show Steps p.tables e below (T0.setTop (mkF m 0 #[.val (.ref o), .val (.int (Int32.ofNat i)), .val (.int j)] [])) _
    refine XS.iloadN X0.here hx rfl (own_hb hby d8_0) rfl ?_
    refine XS.ifNo X0.here hx rfl (own_hb hby d8_1) rfl ((if0 _ _).trans (flt (fun q => by have h2 := (own_ltN (b := 0) hi (by decide)).mp q; omega)).1) ?_
    refine XS.iloadN X0.here hx rfl (own_hb hby d8_4) rfl ?_
    refine XS.iloadN X0.here hx rfl (own_hb hby d8_5) rfl ?_
    show Steps p.tables e below (T0.setTop (mkF m 6 #[.val (.ref o), .val (.int (Int32.ofNat i)), .val (.int j)] [(.int (Int32.ofNat i)), (.int j)])) _
    refine XS.icmpYes X0.here hx rfl (pc0 := 6) (pc' := 24) rfl (own_hb hby d8_6) rfl (flt hij).2.1 (by decide) (by decide) ?_
    refine XS.aloadN X0.here hx rfl (own_hb hby d8_24) rfl rfl ?_
    exact kt
  obtain ⟨T110, X110, e110, st110⟩ := getF X0 hx hZ hown (host := "") (Or.inl (hw _ (List.mem_of_getElem? (i := 56) rfl))) Via.refl e0 pr3 (g := (mkF m 25 #[.val (.ref o), .val (.int (Int32.ofNat i)), .val (.int j)] [(.ref o)])) rfl rfl (own_hb hby d8_25)
  refine own_Go.of (S' := (T110.setTop (mkF m 28 #[.val (.ref o), .val (.int (Int32.ofNat i)), .val (.int j)] [(.int (Int32.ofNat k))]))) st110 ?_
  refine own_Go.of (S' := (T110.setTop (mkF m 29 #[.val (.ref o), .val (.int (Int32.ofNat i)), .val (.int j)] [(.ref o), (.int (Int32.ofNat k))]))) (fun t kt => ?_) ?_
  · show Steps p.tables e below (T110.setTop (mkF m 28 #[.val (.ref o), .val (.int (Int32.ofNat i)), .val (.int j)] [(.int (Int32.ofNat k))])) _
    refine XS.aloadN X110.here hx rfl (own_hb hby d8_28) rfl rfl ?_
    exact kt
  obtain ⟨T111, X111, e111, st111⟩ := getF X110 hx hZ hown (host := "") (Or.inl (hw _ (List.mem_of_getElem? (i := 17) rfl))) Via.refl e110 pr1 (g := (mkF m 29 #[.val (.ref o), .val (.int (Int32.ofNat i)), .val (.int j)] [(.ref o), (.int (Int32.ofNat k))])) rfl rfl (own_hb hby d8_29)
  refine own_Go.of (S' := (T111.setTop (mkF m 32 #[.val (.ref o), .val (.int (Int32.ofNat i)), .val (.int j)] [(.ref rs), (.int (Int32.ofNat k))]))) st111 ?_
  obtain ⟨cl112, Ar112, hln112⟩ := own_Ar.len pr9
  refine own_Go.of (S' := (T111.setTop (mkF m 38 #[.val (.ref o), .val (.int (Int32.ofNat i)), .val (.int j)] [(.ref o), (.ref o)]))) (fun t kt => ?_) ?_
  · show Steps p.tables e below (T111.setTop (mkF m 32 #[.val (.ref o), .val (.int (Int32.ofNat i)), .val (.int j)] [(.ref rs), (.int (Int32.ofNat k))])) _
    refine X111.arraylength hx (by rw [e111]; exact Ar112.1) (State.isArrayOf_alike hZ.alike Ar112.2.1) (g := (mkF m 32 #[.val (.ref o), .val (.int (Int32.ofNat i)), .val (.int j)] [(.ref rs), (.int (Int32.ofNat k))])) rfl rfl (own_hb hby d8_32) _ ?_
    rw [hln112]
    refine XS.icmpNo X111.here hx rfl (own_hb hby d8_33) rfl (teq (own_eqN' hk)).2 ?_
    refine XS.aloadN X111.here hx rfl (own_hb hby d8_36) rfl rfl ?_
    refine XS.aloadN X111.here hx rfl (own_hb hby d8_37) rfl rfl ?_
    exact kt
  obtain ⟨T113, X113, e113, st113⟩ := getF X111 hx hZ hown (host := "") (Or.inl (hw _ (List.mem_of_getElem? (i := 17) rfl))) Via.refl e111 pr1 (g := (mkF m 38 #[.val (.ref o), .val (.int (Int32.ofNat i)), .val (.int j)] [(.ref o), (.ref o)])) rfl rfl (own_hb hby d8_38)
  refine own_Go.of (S' := (T113.setTop (mkF m 41 #[.val (.ref o), .val (.int (Int32.ofNat i)), .val (.int j)] [(.ref rs), (.ref o)]))) st113 ?_
  refine own_Go.of (S' := (T113.setTop (mkF m 43 #[.val (.ref o), .val (.int (Int32.ofNat i)), .val (.int j)] [(.ref o), (.int (2 : Int32)), (.ref rs), (.ref o)]))) (fun t kt => ?_) ?_
  · show Steps p.tables e below (T113.setTop (mkF m 41 #[.val (.ref o), .val (.int (Int32.ofNat i)), .val (.int j)] [(.ref rs), (.ref o)])) _
    refine XS.iconst X113.here hx rfl (own_hb hby d8_41) ?_
    refine XS.aloadN X113.here hx rfl (own_hb hby d8_42) rfl rfl ?_
    exact kt
  obtain ⟨T114, X114, e114, st114⟩ := getF X113 hx hZ hown (host := "") (Or.inl (hw _ (List.mem_of_getElem? (i := 56) rfl))) Via.refl e113 pr3 (g := (mkF m 43 #[.val (.ref o), .val (.int (Int32.ofNat i)), .val (.int j)] [(.ref o), (.int (2 : Int32)), (.ref rs), (.ref o)])) rfl rfl (own_hb hby d8_43)
  refine own_Go.of (S' := (T114.setTop (mkF m 46 #[.val (.ref o), .val (.int (Int32.ofNat i)), .val (.int j)] [(.int (Int32.ofNat k)), (.int (2 : Int32)), (.ref rs), (.ref o)]))) st114 ?_
  refine own_Go.of (S' := (T114.setTop (mkF m 47 #[.val (.ref o), .val (.int (Int32.ofNat i)), .val (.int j)] [(.int (Int32.ofNat (2 * k))), (.ref rs), (.ref o)]))) (fun t kt => ?_) ?_
  · show Steps p.tables e below (T114.setTop (mkF m 46 #[.val (.ref o), .val (.int (Int32.ofNat i)), .val (.int j)] [(.int (Int32.ofNat k)), (.int (2 : Int32)), (.ref rs), (.ref o)])) _
    refine XS.imul X114.here hx rfl (own_hb hby d8_46) rfl ?_
    show Steps p.tables e below (T114.setTop (mkF m 47 #[.val (.ref o), .val (.int (Int32.ofNat i)), .val (.int j)] [(.int ((2 : Int32) * (Int32.ofNat k))), (.ref rs), (.ref o)])) _
    rw [show (2 : Int32) * Int32.ofNat k = Int32.ofNat (2 * k) from (Int32.ofNat_mul 2 k).symm]
    exact kt
  obtain ⟨_, _, ⟨T115, L115, k115, n115⟩, -, X115, ⟨Lc115, hQ115, l115, y115, z115⟩, st115⟩ := Jvm.LawKit.callS X114 hx (y := (⟨"java/util/Arrays", "copyOf", "([II)[I"⟩ : MethodName)) hown (mvT hZ (hw _ (List.mem_of_getElem? (i := 84) rfl))) (mvT hZ (hw _ (List.mem_of_getElem? (i := 85) rfl))) (mvT hZ (hw _ (List.mem_of_getElem? (i := 73) rfl))) (mvT hZ (hw _ (List.mem_of_getElem? (i := 86) rfl))) (by decide) (backOf (W := 1) (rm13 l Z a0 hw [] rs (2 * k) cap gs h0 n0 Z0 pr9 (by omega) (by omega)) hZ (hw _ (List.mem_of_getElem? (i := 86) rfl)) (hw _ (List.mem_of_getElem? (i := 73) rfl)) (by decide) (by decide)) (g := (mkF m 47 #[.val (.ref o), .val (.int (Int32.ofNat i)), .val (.int j)] [(.int (Int32.ofNat (2 * k))), (.ref rs), (.ref o)])) rfl (by rw [hml]; rfl) (argsL := [(.ref rs), (.int (Int32.ofNat (2 * k)))]) (rest := [(.ref o)]) (lenOf pd_1 rfl) rfl (by show 2 * 0 + _ ≤ _; exact Nat.le_of_eq rfl) (own_hb hby d8_47) (fun _ _ => ⟨rfl, e114, (by decide : 0 + 1 ≤ _), (by decide : 0 + 8 ≤ _)⟩)
  dsimp only [Pt.U, Pt.locs, Pt.cells, Pt.slots] at X115 l115 y115 z115 st115 hQ115
  subst l115 y115 z115
  obtain ⟨b115, rfl, N115q, K115, p115_0, p115_1⟩ := hQ115
  have N115 := Fr.app N0 N115q
  refine own_Go.of (S' := (T115.setTop (mkF m 50 #[.val (.ref o), .val (.int (Int32.ofNat i)), .val (.int j)] [(.ref b115), (.ref o)]))) (fun t kt => st115 t kt) ?_
  have gx116 : n0 ≤ b115 := Nat.le_trans Z0 p115_0
  have ne117 : o ≠ b115 := Nat.ne_of_lt (Nat.lt_of_lt_of_le pr0.lt p115_0)
  have ne118 : rs ≠ b115 := Nat.ne_of_lt (Nat.lt_of_lt_of_le pr9.lt p115_0)
  have ne119 : re ≠ b115 := Nat.ne_of_lt (Nat.lt_of_lt_of_le pr10.lt p115_0)
  have sz120 : h0.size ≤ b115 := Nat.le_trans kp0.1 p115_0
  have f121 := pr0.keep K115
  have f122 := pr1.keep K115 nin0
  have f123 := pr2.keep K115 nin0
  have f124 := pr3.keep K115 nin0
  have f125 := pr4.keep K115 nin0
  have f126 := pr5.keep K115 nin0
  have f127 := pr6.keep K115 nin0
  have f128 := pr7.keep K115 nin0
  have f129 := pr8.keep K115 nin0
  have f130 := pr9.keep K115 nin0
  have f131 := pr10.keep K115 nin0
  have z132 := Nat.le_trans Z0 K115.1
  have kp133 := kp0.trans K115 all0
  obtain ⟨T134, h134, X134, e134, W134, st134⟩ := putF X115 hx hZ hown (host := "") (Or.inl (hw _ (List.mem_of_getElem? (i := 17) rfl))) Via.refl rfl f122 f121 (Or.inl (hw _ (List.mem_of_getElem? (i := 18) rfl))) (hw _ (List.mem_of_getElem? (i := 6) rfl)) (ty := (.array .int)) (by decide) rfl rfl (g := (mkF m 50 #[.val (.ref o), .val (.int (Int32.ofNat i)), .val (.int j)] [(.ref b115), (.ref o)])) rfl rfl (own_hb hby d8_50)
  refine own_Go.of (S' := (T134.setTop (mkF m 53 #[.val (.ref o), .val (.int (Int32.ofNat i)), .val (.int j)] []))) st134 ?_
  have f135 := f121.wr W134
  have f136 := f123.other W134 (Or.inr (slot_ne (Or.inl (hw _ (List.mem_of_getElem? (i := 20) rfl))) (Or.inl (hw _ (List.mem_of_getElem? (i := 18) rfl))) (by decide) (t := (.array .int)) (t' := (.array .int)) (by decide) (by decide)))
  have f137 := f124.other W134 (Or.inr (slot_ne (Or.inl (hw _ (List.mem_of_getElem? (i := 57) rfl))) (Or.inl (hw _ (List.mem_of_getElem? (i := 18) rfl))) (by decide) (t := .int) (t' := (.array .int)) (by decide) (by decide)))
  have f138 := f125.other W134 (Or.inr (slot_ne (Or.inl (hw _ (List.mem_of_getElem? (i := 50) rfl))) (Or.inl (hw _ (List.mem_of_getElem? (i := 18) rfl))) (by decide) (t := .int) (t' := (.array .int)) (by decide) (by decide)))
  have f139 := f126.other W134 (Or.inr (slot_ne (Or.inl (hw _ (List.mem_of_getElem? (i := 40) rfl))) (Or.inl (hw _ (List.mem_of_getElem? (i := 18) rfl))) (by decide) (t := .boolean) (t' := (.array .int)) (by decide) (by decide)))
  have f140 := f127.other W134 (Or.inr (slot_ne (Or.inl (hw _ (List.mem_of_getElem? (i := 15) rfl))) (Or.inl (hw _ (List.mem_of_getElem? (i := 18) rfl))) (by decide) (t := (.array .byte)) (t' := (.array .int)) (by decide) (by decide)))
  have f141 := f128.other W134 (Or.inr (slot_ne (Or.inl (hw _ (List.mem_of_getElem? (i := 69) rfl))) (Or.inl (hw _ (List.mem_of_getElem? (i := 18) rfl))) (by decide) (t := (.array .boolean)) (t' := (.array .int)) (by decide) (by decide)))
  have f142 := f129.other W134 (Or.inr (slot_ne (Or.inl (hw _ (List.mem_of_getElem? (i := 83) rfl))) (Or.inl (hw _ (List.mem_of_getElem? (i := 18) rfl))) (by decide) (t := .int) (t' := (.array .int)) (by decide) (by decide)))
  have f143 := f130.other W134 (Ne.symm pr14)
  have f144 := f131.other W134 (Ne.symm pr15)
  have f145 := p115_1.other W134 (Ne.symm ne117)
  have z146 := Nat.le_trans z132 (Keep.of_wr W134).1
  have kp147 := kp133.wr W134 (Or.inl (List.mem_of_getElem? (i := 0) rfl))
  have f148 : Fld Z h134 o "com/example/quayside/quayside/Row" "starts" "[I" (.ref b115) := f122.same W134
  have N134 := Fr.snoc X134 N115 pr11
  refine own_Go.of (S' := (T134.setTop (mkF m 55 #[.val (.ref o), .val (.int (Int32.ofNat i)), .val (.int j)] [(.ref o), (.ref o)]))) (fun t kt => ?_) ?_
  · show Steps p.tables e below (T134.setTop (mkF m 53 #[.val (.ref o), .val (.int (Int32.ofNat i)), .val (.int j)] [])) _
    refine XS.aloadN X134.here hx rfl (own_hb hby d8_53) rfl rfl ?_
    refine XS.aloadN X134.here hx rfl (own_hb hby d8_54) rfl rfl ?_
    exact kt
  obtain ⟨T149, X149, e149, st149⟩ := getF X134 hx hZ hown (host := "") (Or.inl (hw _ (List.mem_of_getElem? (i := 19) rfl))) Via.refl e134 f136 (g := (mkF m 55 #[.val (.ref o), .val (.int (Int32.ofNat i)), .val (.int j)] [(.ref o), (.ref o)])) rfl rfl (own_hb hby d8_55)
  refine own_Go.of (S' := (T149.setTop (mkF m 58 #[.val (.ref o), .val (.int (Int32.ofNat i)), .val (.int j)] [(.ref re), (.ref o)]))) st149 ?_
  refine own_Go.of (S' := (T149.setTop (mkF m 60 #[.val (.ref o), .val (.int (Int32.ofNat i)), .val (.int j)] [(.ref o), (.int (2 : Int32)), (.ref re), (.ref o)]))) (fun t kt => ?_) ?_
  · show Steps p.tables e below (T149.setTop (mkF m 58 #[.val (.ref o), .val (.int (Int32.ofNat i)), .val (.int j)] [(.ref re), (.ref o)])) _
    refine XS.iconst X149.here hx rfl (own_hb hby d8_58) ?_
    refine XS.aloadN X149.here hx rfl (own_hb hby d8_59) rfl rfl ?_
    exact kt
  obtain ⟨T150, X150, e150, st150⟩ := getF X149 hx hZ hown (host := "") (Or.inl (hw _ (List.mem_of_getElem? (i := 56) rfl))) Via.refl e149 f137 (g := (mkF m 60 #[.val (.ref o), .val (.int (Int32.ofNat i)), .val (.int j)] [(.ref o), (.int (2 : Int32)), (.ref re), (.ref o)])) rfl rfl (own_hb hby d8_60)
  refine own_Go.of (S' := (T150.setTop (mkF m 63 #[.val (.ref o), .val (.int (Int32.ofNat i)), .val (.int j)] [(.int (Int32.ofNat k)), (.int (2 : Int32)), (.ref re), (.ref o)]))) st150 ?_
  refine own_Go.of (S' := (T150.setTop (mkF m 64 #[.val (.ref o), .val (.int (Int32.ofNat i)), .val (.int j)] [(.int (Int32.ofNat (2 * k))), (.ref re), (.ref o)]))) (fun t kt => ?_) ?_
  · show Steps p.tables e below (T150.setTop (mkF m 63 #[.val (.ref o), .val (.int (Int32.ofNat i)), .val (.int j)] [(.int (Int32.ofNat k)), (.int (2 : Int32)), (.ref re), (.ref o)])) _
    refine XS.imul X150.here hx rfl (own_hb hby d8_63) rfl ?_
    show Steps p.tables e below (T150.setTop (mkF m 64 #[.val (.ref o), .val (.int (Int32.ofNat i)), .val (.int j)] [(.int ((2 : Int32) * (Int32.ofNat k))), (.ref re), (.ref o)])) _
    rw [show (2 : Int32) * Int32.ofNat k = Int32.ofNat (2 * k) from (Int32.ofNat_mul 2 k).symm]
    exact kt
  obtain ⟨_, _, ⟨T151, L151, k151, n151⟩, -, X151, ⟨Lc151, hQ151, l151, y151, z151⟩, st151⟩ := Jvm.LawKit.callS X150 hx (y := (⟨"java/util/Arrays", "copyOf", "([II)[I"⟩ : MethodName)) hown (mvT hZ (hw _ (List.mem_of_getElem? (i := 84) rfl))) (mvT hZ (hw _ (List.mem_of_getElem? (i := 85) rfl))) (mvT hZ (hw _ (List.mem_of_getElem? (i := 73) rfl))) (mvT hZ (hw _ (List.mem_of_getElem? (i := 86) rfl))) (by decide) (backOf (W := 1) (rm13 l Z a0 hw [] re (2 * k) cap ge h134 n0 z146 f144 (by omega) (by omega)) hZ (hw _ (List.mem_of_getElem? (i := 86) rfl)) (hw _ (List.mem_of_getElem? (i := 73) rfl)) (by decide) (by decide)) (g := (mkF m 64 #[.val (.ref o), .val (.int (Int32.ofNat i)), .val (.int j)] [(.int (Int32.ofNat (2 * k))), (.ref re), (.ref o)])) rfl (by rw [hml]; rfl) (argsL := [(.ref re), (.int (Int32.ofNat (2 * k)))]) (rest := [(.ref o)]) (lenOf pd_1 rfl) rfl (by show 2 * 0 + _ ≤ _; exact Nat.le_of_eq rfl) (own_hb hby d8_64) (fun _ _ => ⟨rfl, e150, (by decide : 1 + 1 ≤ _), (by decide : 8 + 8 ≤ _)⟩)
  dsimp only [Pt.U, Pt.locs, Pt.cells, Pt.slots] at X151 l151 y151 z151 st151 hQ151
  subst l151 y151 z151
  obtain ⟨b151, rfl, N151q, K151, p151_0, p151_1⟩ := hQ151
  have N151 := Fr.app N134 N151q
  refine own_Go.of (S' := (T151.setTop (mkF m 67 #[.val (.ref o), .val (.int (Int32.ofNat i)), .val (.int j)] [(.ref b151), (.ref o)]))) (fun t kt => st151 t kt) ?_
  have gx152 : n0 ≤ b151 := Nat.le_trans z146 p151_0
  have ne153 : o ≠ b151 := Nat.ne_of_lt (Nat.lt_of_lt_of_le f135.lt p151_0)
  have ne154 : rs ≠ b151 := Nat.ne_of_lt (Nat.lt_of_lt_of_le f143.lt p151_0)
  have ne155 : re ≠ b151 := Nat.ne_of_lt (Nat.lt_of_lt_of_le f144.lt p151_0)
  have ne156 : b115 ≠ b151 := Nat.ne_of_lt (Nat.lt_of_lt_of_le f145.lt p151_0)
  have sz157 : h0.size ≤ b151 := Nat.le_trans kp147.1 p151_0
  have f158 := f135.keep K151
  have f159 := f148.keep K151 nin0
  have f160 := f136.keep K151 nin0
  have f161 := f137.keep K151 nin0
  have f162 := f138.keep K151 nin0
  have f163 := f139.keep K151 nin0
  have f164 := f140.keep K151 nin0
  have f165 := f141.keep K151 nin0
  have f166 := f142.keep K151 nin0
  have f167 := f143.keep K151 nin0
  have f168 := f144.keep K151 nin0
  have f169 := f145.keep K151 nin0
  have z170 := Nat.le_trans z146 K151.1
  have kp171 := kp147.trans K151 all0
  obtain ⟨T172, h172, X172, e172, W172, st172⟩ := putF X151 hx hZ hown (host := "") (Or.inl (hw _ (List.mem_of_getElem? (i := 19) rfl))) Via.refl rfl f160 f158 (Or.inl (hw _ (List.mem_of_getElem? (i := 20) rfl))) (hw _ (List.mem_of_getElem? (i := 6) rfl)) (ty := (.array .int)) (by decide) rfl rfl (g := (mkF m 67 #[.val (.ref o), .val (.int (Int32.ofNat i)), .val (.int j)] [(.ref b151), (.ref o)])) rfl rfl (own_hb hby d8_67)
  refine own_Go.of (S' := (T172.setTop (mkF m 70 #[.val (.ref o), .val (.int (Int32.ofNat i)), .val (.int j)] []))) st172 ?_
  have f173 := f158.wr W172
  have f174 := f159.other W172 (Or.inr (slot_ne (Or.inl (hw _ (List.mem_of_getElem? (i := 18) rfl))) (Or.inl (hw _ (List.mem_of_getElem? (i := 20) rfl))) (by decide) (t := (.array .int)) (t' := (.array .int)) (by decide) (by decide)))
  have f175 := f161.other W172 (Or.inr (slot_ne (Or.inl (hw _ (List.mem_of_getElem? (i := 57) rfl))) (Or.inl (hw _ (List.mem_of_getElem? (i := 20) rfl))) (by decide) (t := .int) (t' := (.array .int)) (by decide) (by decide)))
  have f176 := f162.other W172 (Or.inr (slot_ne (Or.inl (hw _ (List.mem_of_getElem? (i := 50) rfl))) (Or.inl (hw _ (List.mem_of_getElem? (i := 20) rfl))) (by decide) (t := .int) (t' := (.array .int)) (by decide) (by decide)))
  have f177 := f163.other W172 (Or.inr (slot_ne (Or.inl (hw _ (List.mem_of_getElem? (i := 40) rfl))) (Or.inl (hw _ (List.mem_of_getElem? (i := 20) rfl))) (by decide) (t := .boolean) (t' := (.array .int)) (by decide) (by decide)))
  have f178 := f164.other W172 (Or.inr (slot_ne (Or.inl (hw _ (List.mem_of_getElem? (i := 15) rfl))) (Or.inl (hw _ (List.mem_of_getElem? (i := 20) rfl))) (by decide) (t := (.array .byte)) (t' := (.array .int)) (by decide) (by decide)))
  have f179 := f165.other W172 (Or.inr (slot_ne (Or.inl (hw _ (List.mem_of_getElem? (i := 69) rfl))) (Or.inl (hw _ (List.mem_of_getElem? (i := 20) rfl))) (by decide) (t := (.array .boolean)) (t' := (.array .int)) (by decide) (by decide)))
  have f180 := f166.other W172 (Or.inr (slot_ne (Or.inl (hw _ (List.mem_of_getElem? (i := 83) rfl))) (Or.inl (hw _ (List.mem_of_getElem? (i := 20) rfl))) (by decide) (t := .int) (t' := (.array .int)) (by decide) (by decide)))
  have f181 := f167.other W172 (Ne.symm pr14)
  have f182 := f168.other W172 (Ne.symm pr15)
  have f183 := f169.other W172 (Ne.symm ne117)
  have f184 := p151_1.other W172 (Ne.symm ne153)
  have z185 := Nat.le_trans z170 (Keep.of_wr W172).1
  have kp186 := kp171.wr W172 (Or.inl (List.mem_of_getElem? (i := 0) rfl))
  have f187 : Fld Z h172 o "com/example/quayside/quayside/Row" "ends" "[I" (.ref b151) := f160.same W172
  have N172 := Fr.snoc X172 N151 pr11
  refine own_Go.of (S' := (T172.setTop (mkF m 71 #[.val (.ref o), .val (.int (Int32.ofNat i)), .val (.int j)] [(.ref o)]))) (fun t kt => ?_) ?_
  · show Steps p.tables e below (T172.setTop (mkF m 70 #[.val (.ref o), .val (.int (Int32.ofNat i)), .val (.int j)] [])) _
    refine XS.aloadN X172.here hx rfl (own_hb hby d8_70) rfl rfl ?_
    exact kt
  obtain ⟨T188, X188, e188, st188⟩ := getF X172 hx hZ hown (host := "") (Or.inl (hw _ (List.mem_of_getElem? (i := 17) rfl))) Via.refl e172 f174 (g := (mkF m 71 #[.val (.ref o), .val (.int (Int32.ofNat i)), .val (.int j)] [(.ref o)])) rfl rfl (own_hb hby d8_71)
  refine own_Go.of (S' := (T188.setTop (mkF m 74 #[.val (.ref o), .val (.int (Int32.ofNat i)), .val (.int j)] [(.ref b115)]))) st188 ?_
  refine own_Go.of (S' := (T188.setTop (mkF m 75 #[.val (.ref o), .val (.int (Int32.ofNat i)), .val (.int j)] [(.ref o), (.ref b115)]))) (fun t kt => ?_) ?_
  · show Steps p.tables e below (T188.setTop (mkF m 74 #[.val (.ref o), .val (.int (Int32.ofNat i)), .val (.int j)] [(.ref b115)])) _
    refine XS.aloadN X188.here hx rfl (own_hb hby d8_74) rfl rfl ?_
    exact kt
  obtain ⟨T189, X189, e189, st189⟩ := getF X188 hx hZ hown (host := "") (Or.inl (hw _ (List.mem_of_getElem? (i := 56) rfl))) Via.refl e188 f175 (g := (mkF m 75 #[.val (.ref o), .val (.int (Int32.ofNat i)), .val (.int j)] [(.ref o), (.ref b115)])) rfl rfl (own_hb hby d8_75)
  refine own_Go.of (S' := (T189.setTop (mkF m 78 #[.val (.ref o), .val (.int (Int32.ofNat i)), .val (.int j)] [(.int (Int32.ofNat k)), (.ref b115)]))) st189 ?_
  refine own_Go.of (S' := (T189.setTop (mkF m 79 #[.val (.ref o), .val (.int (Int32.ofNat i)), .val (.int j)] [(.int (Int32.ofNat i)), (.int (Int32.ofNat k)), (.ref b115)]))) (fun t kt => ?_) ?_
  · show Steps p.tables e below (T189.setTop (mkF m 78 #[.val (.ref o), .val (.int (Int32.ofNat i)), .val (.int j)] [(.int (Int32.ofNat k)), (.ref b115)])) _
    refine XS.iloadN X189.here hx rfl (own_hb hby d8_78) rfl ?_
    exact kt
  obtain ⟨cl190, Ar190, hin190, ub190⟩ := own_Ar.put (j := (Int32.ofNat k)) (k := k) f183 ⟨rfl, by omega⟩
  obtain ⟨T190, h190, X190, e190, W190, st190⟩ := stI X189 hx hZ e189 Ar190 (j := (Int32.ofNat k)) hin190 (g := (mkF m 79 #[.val (.ref o), .val (.int (Int32.ofNat i)), .val (.int j)] [(.int (Int32.ofNat i)), (.int (Int32.ofNat k)), (.ref b115)])) rfl rfl (own_hb hby d8_79)
  refine own_Go.of (S' := (T190.setTop (mkF m 80 #[.val (.ref o), .val (.int (Int32.ofNat i)), .val (.int j)] []))) st190 ?_
  have f191 := f173.wr W190
  have f192 := f174.other W190 (Or.inl ne117)
  have f193 := f187.other W190 (Or.inl ne117)
  have f194 := f175.other W190 (Or.inl ne117)
  have f195 := f176.other W190 (Or.inl ne117)
  have f196 := f177.other W190 (Or.inl ne117)
  have f197 := f178.other W190 (Or.inl ne117)
  have f198 := f179.other W190 (Or.inl ne117)
  have f199 := f180.other W190 (Or.inl ne117)
  have f200 := f181.other W190 ne118
  have f201 := f182.other W190 ne119
  have f202 := f184.other W190 (Ne.symm ne156)
  have z203 := Nat.le_trans z185 (Keep.of_wr W190).1
  have kp204 := kp186.wr W190 (Or.inr sz120)
  have f205 : own_Ar Z h190 b115 .int (2 * k) (own_I (own_set (own_cpy gs cap) k (Int32.ofNat i))) := by rw [← own_upI]; exact ub190 rfl W190
  have N190 := Fr.snoc X190 N172 gx116
  refine own_Go.of (S' := (T190.setTop (mkF m 81 #[.val (.ref o), .val (.int (Int32.ofNat i)), .val (.int j)] [(.ref o)]))) (fun t kt => ?_) ?_
  · show Steps p.tables e below (T190.setTop (mkF m 80 #[.val (.ref o), .val (.int (Int32.ofNat i)), .val (.int j)] [])) _
    refine XS.aloadN X190.here hx rfl (own_hb hby d8_80) rfl rfl ?_
    exact kt
  obtain ⟨T206, X206, e206, st206⟩ := getF X190 hx hZ hown (host := "") (Or.inl (hw _ (List.mem_of_getElem? (i := 19) rfl))) Via.refl e190 f193 (g := (mkF m 81 #[.val (.ref o), .val (.int (Int32.ofNat i)), .val (.int j)] [(.ref o)])) rfl rfl (own_hb hby d8_81)
  refine own_Go.of (S' := (T206.setTop (mkF m 84 #[.val (.ref o), .val (.int (Int32.ofNat i)), .val (.int j)] [(.ref b151)]))) st206 ?_
  refine own_Go.of (S' := (T206.setTop (mkF m 85 #[.val (.ref o), .val (.int (Int32.ofNat i)), .val (.int j)] [(.ref o), (.ref b151)]))) (fun t kt => ?_) ?_
  · show Steps p.tables e below (T206.setTop (mkF m 84 #[.val (.ref o), .val (.int (Int32.ofNat i)), .val (.int j)] [(.ref b151)])) _
    refine XS.aloadN X206.here hx rfl (own_hb hby d8_84) rfl rfl ?_
    exact kt
  obtain ⟨T207, X207, e207, st207⟩ := getF X206 hx hZ hown (host := "") (Or.inl (hw _ (List.mem_of_getElem? (i := 56) rfl))) Via.refl e206 f194 (g := (mkF m 85 #[.val (.ref o), .val (.int (Int32.ofNat i)), .val (.int j)] [(.ref o), (.ref b151)])) rfl rfl (own_hb hby d8_85)
  refine own_Go.of (S' := (T207.setTop (mkF m 88 #[.val (.ref o), .val (.int (Int32.ofNat i)), .val (.int j)] [(.int (Int32.ofNat k)), (.ref b151)]))) st207 ?_
  refine own_Go.of (S' := (T207.setTop (mkF m 89 #[.val (.ref o), .val (.int (Int32.ofNat i)), .val (.int j)] [(.int j), (.int (Int32.ofNat k)), (.ref b151)]))) (fun t kt => ?_) ?_
  · show Steps p.tables e below (T207.setTop (mkF m 88 #[.val (.ref o), .val (.int (Int32.ofNat i)), .val (.int j)] [(.int (Int32.ofNat k)), (.ref b151)])) _
    refine XS.iloadN X207.here hx rfl (own_hb hby d8_88) rfl ?_
    exact kt
  obtain ⟨cl208, Ar208, hin208, ub208⟩ := own_Ar.put (j := (Int32.ofNat k)) (k := k) f202 ⟨rfl, by omega⟩
  obtain ⟨T208, h208, X208, e208, W208, st208⟩ := stI X207 hx hZ e207 Ar208 (j := (Int32.ofNat k)) hin208 (g := (mkF m 89 #[.val (.ref o), .val (.int (Int32.ofNat i)), .val (.int j)] [(.int j), (.int (Int32.ofNat k)), (.ref b151)])) rfl rfl (own_hb hby d8_89)
  refine own_Go.of (S' := (T208.setTop (mkF m 90 #[.val (.ref o), .val (.int (Int32.ofNat i)), .val (.int j)] []))) st208 ?_
  have f209 := f191.wr W208
  have f210 := f192.other W208 (Or.inl ne153)
  have f211 := f193.other W208 (Or.inl ne153)
  have f212 := f194.other W208 (Or.inl ne153)
  have f213 := f195.other W208 (Or.inl ne153)
  have f214 := f196.other W208 (Or.inl ne153)
  have f215 := f197.other W208 (Or.inl ne153)
  have f216 := f198.other W208 (Or.inl ne153)
  have f217 := f199.other W208 (Or.inl ne153)
  have f218 := f200.other W208 ne154
  have f219 := f201.other W208 ne155
  have f220 := f205.other W208 ne156
  have z221 := Nat.le_trans z203 (Keep.of_wr W208).1
  have kp222 := kp204.wr W208 (Or.inr sz157)
  have f223 : own_Ar Z h208 b151 .int (2 * k) (own_I (own_set (own_cpy ge cap) k j)) := by rw [← own_upI]; exact ub208 rfl W208
  have N208 := Fr.snoc X208 N190 gx152
  refine own_Go.of (S' := (T208.setTop (mkF m 92 #[.val (.ref o), .val (.int (Int32.ofNat i)), .val (.int j)] [(.ref o), (.ref o)]))) (fun t kt => ?_) ?_
  · show Steps p.tables e below (T208.setTop (mkF m 90 #[.val (.ref o), .val (.int (Int32.ofNat i)), .val (.int j)] [])) _
    refine XS.aloadN X208.here hx rfl (own_hb hby d8_90) rfl rfl ?_
    refine XS.dup X208.here hx rfl (own_hb hby d8_91) rfl rfl ?_
    exact kt
  obtain ⟨T224, X224, e224, st224⟩ := getF X208 hx hZ hown (host := "") (Or.inl (hw _ (List.mem_of_getElem? (i := 56) rfl))) Via.refl e208 f212 (g := (mkF m 92 #[.val (.ref o), .val (.int (Int32.ofNat i)), .val (.int j)] [(.ref o), (.ref o)])) rfl rfl (own_hb hby d8_92)
  refine own_Go.of (S' := (T224.setTop (mkF m 95 #[.val (.ref o), .val (.int (Int32.ofNat i)), .val (.int j)] [(.int (Int32.ofNat k)), (.ref o)]))) st224 ?_
  refine own_Go.of (S' := (T224.setTop (mkF m 97 #[.val (.ref o), .val (.int (Int32.ofNat i)), .val (.int j)] [(.int (Int32.ofNat (k + 1))), (.ref o)]))) (fun t kt => ?_) ?_
  · show Steps p.tables e below (T224.setTop (mkF m 95 #[.val (.ref o), .val (.int (Int32.ofNat i)), .val (.int j)] [(.int (Int32.ofNat k)), (.ref o)])) _
    refine XS.iconst X224.here hx rfl (own_hb hby d8_95) ?_
    refine XS.iadd X224.here hx rfl (own_hb hby d8_96) rfl ?_
    show Steps p.tables e below (T224.setTop (mkF m 97 #[.val (.ref o), .val (.int (Int32.ofNat i)), .val (.int j)] [(.int ((Int32.ofNat k) + (1 : Int32))), (.ref o)])) _
    rw [show Int32.ofNat k + (1 : Int32) = Int32.ofNat (k + 1) from own_addN k 1]
    exact kt
  obtain ⟨T225, h225, X225, e225, W225, st225⟩ := putF X224 hx hZ hown (host := "") (Or.inl (hw _ (List.mem_of_getElem? (i := 56) rfl))) Via.refl e224 f212 f209 (Or.inl (hw _ (List.mem_of_getElem? (i := 57) rfl))) (hw _ (List.mem_of_getElem? (i := 6) rfl)) (ty := .int) (by decide) rfl rfl (g := (mkF m 97 #[.val (.ref o), .val (.int (Int32.ofNat i)), .val (.int j)] [(.int (Int32.ofNat (k + 1))), (.ref o)])) rfl rfl (own_hb hby d8_97)
  refine own_Go.of (S' := (T225.setTop (mkF m 100 #[.val (.ref o), .val (.int (Int32.ofNat i)), .val (.int j)] []))) st225 ?_
  have f226 := f209.wr W225
  have f227 := f210.other W225 (Or.inr (slot_ne (Or.inl (hw _ (List.mem_of_getElem? (i := 18) rfl))) (Or.inl (hw _ (List.mem_of_getElem? (i := 57) rfl))) (by decide) (t := (.array .int)) (t' := .int) (by decide) (by decide)))
  have f228 := f211.other W225 (Or.inr (slot_ne (Or.inl (hw _ (List.mem_of_getElem? (i := 20) rfl))) (Or.inl (hw _ (List.mem_of_getElem? (i := 57) rfl))) (by decide) (t := (.array .int)) (t' := .int) (by decide) (by decide)))
  have f229 := f213.other W225 (Or.inr (slot_ne (Or.inl (hw _ (List.mem_of_getElem? (i := 50) rfl))) (Or.inl (hw _ (List.mem_of_getElem? (i := 57) rfl))) (by decide) (t := .int) (t' := .int) (by decide) (by decide)))
  have f230 := f214.other W225 (Or.inr (slot_ne (Or.inl (hw _ (List.mem_of_getElem? (i := 40) rfl))) (Or.inl (hw _ (List.mem_of_getElem? (i := 57) rfl))) (by decide) (t := .boolean) (t' := .int) (by decide) (by decide)))
  have f231 := f215.other W225 (Or.inr (slot_ne (Or.inl (hw _ (List.mem_of_getElem? (i := 15) rfl))) (Or.inl (hw _ (List.mem_of_getElem? (i := 57) rfl))) (by decide) (t := (.array .byte)) (t' := .int) (by decide) (by decide)))
  have f232 := f216.other W225 (Or.inr (slot_ne (Or.inl (hw _ (List.mem_of_getElem? (i := 69) rfl))) (Or.inl (hw _ (List.mem_of_getElem? (i := 57) rfl))) (by decide) (t := (.array .boolean)) (t' := .int) (by decide) (by decide)))
  have f233 := f217.other W225 (Or.inr (slot_ne (Or.inl (hw _ (List.mem_of_getElem? (i := 83) rfl))) (Or.inl (hw _ (List.mem_of_getElem? (i := 57) rfl))) (by decide) (t := .int) (t' := .int) (by decide) (by decide)))
  have f234 := f218.other W225 (Ne.symm pr14)
  have f235 := f219.other W225 (Ne.symm pr15)
  have f236 := f220.other W225 (Ne.symm ne117)
  have f237 := f223.other W225 (Ne.symm ne153)
  have z238 := Nat.le_trans z221 (Keep.of_wr W225).1
  have kp239 := kp222.wr W225 (Or.inl (List.mem_of_getElem? (i := 0) rfl))
  have f240 : Fld Z h225 o "com/example/quayside/quayside/Row" "size" "I" (.int (Int32.ofNat (k + 1))) := f212.same W225
  have N225 := Fr.snoc X225 N208 pr11
  refine own_Go.of (S' := (T225.setTop (mkF m 102 #[.val (.ref o), .val (.int (Int32.ofNat i)), .val (.int j)] [(.ref o), (.ref o)]))) (fun t kt => ?_) ?_
  · show Steps p.tables e below (T225.setTop (mkF m 100 #[.val (.ref o), .val (.int (Int32.ofNat i)), .val (.int j)] [])) _
    refine XS.aloadN X225.here hx rfl (own_hb hby d8_100) rfl rfl ?_
    refine XS.aloadN X225.here hx rfl (own_hb hby d8_101) rfl rfl ?_
    exact kt
  obtain ⟨T241, X241, e241, st241⟩ := getF X225 hx hZ hown (host := "") (Or.inl (hw _ (List.mem_of_getElem? (i := 49) rfl))) Via.refl e225 f229 (g := (mkF m 102 #[.val (.ref o), .val (.int (Int32.ofNat i)), .val (.int j)] [(.ref o), (.ref o)])) rfl rfl (own_hb hby d8_102)
  refine own_Go.of (S' := (T241.setTop (mkF m 105 #[.val (.ref o), .val (.int (Int32.ofNat i)), .val (.int j)] [(.int r), (.ref o)]))) st241 ?_
  refine own_Go.of (S' := (T241.setTop (mkF m 106 #[.val (.ref o), .val (.int (Int32.ofNat i)), .val (.int j)] [(.int j), (.int r), (.ref o)]))) (fun t kt => ?_) ?_
  · show Steps p.tables e below (T241.setTop (mkF m 105 #[.val (.ref o), .val (.int (Int32.ofNat i)), .val (.int j)] [(.int r), (.ref o)])) _
    refine XS.iloadN X241.here hx rfl (own_hb hby d8_105) rfl ?_
    exact kt
  obtain ⟨_, _, ⟨T242, L242, k242, n242⟩, -, X242, ⟨Lc242, hQ242, l242, y242, z242⟩, st242⟩ := Jvm.LawKit.callS X241 hx (y := (⟨"java/lang/Math", "max", "(II)I"⟩ : MethodName)) hown (mvT hZ (hw _ (List.mem_of_getElem? (i := 58) rfl))) (mvT hZ (hw _ (List.mem_of_getElem? (i := 59) rfl))) (mvT hZ (hw _ (List.mem_of_getElem? (i := 60) rfl))) (mvT hZ (hw _ (List.mem_of_getElem? (i := 61) rfl))) (by decide) (backOf (W := 1) (rm9 l Z a0 hw [] r j h225 n0 z238 ) hZ (hw _ (List.mem_of_getElem? (i := 61) rfl)) (hw _ (List.mem_of_getElem? (i := 60) rfl)) (by decide) (by decide)) (g := (mkF m 106 #[.val (.ref o), .val (.int (Int32.ofNat i)), .val (.int j)] [(.int j), (.int r), (.ref o)])) rfl (by rw [hml]; rfl) (argsL := [(.int r), (.int j)]) (rest := [(.ref o)]) (lenOf pd_0 rfl) rfl (by show 2 * 0 + _ ≤ _; exact Nat.le_of_eq rfl) (own_hb hby d8_106) (fun _ _ => ⟨rfl, e241, (by decide : 2 + 0 ≤ _), (by decide : 16 + 0 ≤ _)⟩)
  dsimp only [Pt.U, Pt.locs, Pt.cells, Pt.slots] at X242 l242 y242 z242 st242 hQ242
  subst l242 y242 z242
  obtain ⟨rfl, N242q, hh242⟩ := hQ242
  have N242 := Fr.app N225 N242q
  refine own_Go.of (S' := (T242.setTop (mkF m 109 #[.val (.ref o), .val (.int (Int32.ofNat i)), .val (.int j)] [(.int (own_maxI r j)), (.ref o)]))) (fun t kt => st242 t kt) ?_
  obtain ⟨T243, h243, X243, e243, W243, st243⟩ := putF X242 hx hZ hown (host := "") (Or.inl (hw _ (List.mem_of_getElem? (i := 49) rfl))) Via.refl hh242 f229 f226 (Or.inl (hw _ (List.mem_of_getElem? (i := 50) rfl))) (hw _ (List.mem_of_getElem? (i := 6) rfl)) (ty := .int) (by decide) rfl rfl (g := (mkF m 109 #[.val (.ref o), .val (.int (Int32.ofNat i)), .val (.int j)] [(.int (own_maxI r j)), (.ref o)])) rfl rfl (own_hb hby d8_109)
  refine own_Go.of (S' := (T243.setTop (mkF m 112 #[.val (.ref o), .val (.int (Int32.ofNat i)), .val (.int j)] []))) st243 ?_
  have f244 := f226.wr W243
  have f245 := f227.other W243 (Or.inr (slot_ne (Or.inl (hw _ (List.mem_of_getElem? (i := 18) rfl))) (Or.inl (hw _ (List.mem_of_getElem? (i := 50) rfl))) (by decide) (t := (.array .int)) (t' := .int) (by decide) (by decide)))
  have f246 := f228.other W243 (Or.inr (slot_ne (Or.inl (hw _ (List.mem_of_getElem? (i := 20) rfl))) (Or.inl (hw _ (List.mem_of_getElem? (i := 50) rfl))) (by decide) (t := (.array .int)) (t' := .int) (by decide) (by decide)))
  have f247 := f240.other W243 (Or.inr (slot_ne (Or.inl (hw _ (List.mem_of_getElem? (i := 57) rfl))) (Or.inl (hw _ (List.mem_of_getElem? (i := 50) rfl))) (by decide) (t := .int) (t' := .int) (by decide) (by decide)))
  have f248 := f230.other W243 (Or.inr (slot_ne (Or.inl (hw _ (List.mem_of_getElem? (i := 40) rfl))) (Or.inl (hw _ (List.mem_of_getElem? (i := 50) rfl))) (by decide) (t := .boolean) (t' := .int) (by decide) (by decide)))
  have f249 := f231.other W243 (Or.inr (slot_ne (Or.inl (hw _ (List.mem_of_getElem? (i := 15) rfl))) (Or.inl (hw _ (List.mem_of_getElem? (i := 50) rfl))) (by decide) (t := (.array .byte)) (t' := .int) (by decide) (by decide)))
  have f250 := f232.other W243 (Or.inr (slot_ne (Or.inl (hw _ (List.mem_of_getElem? (i := 69) rfl))) (Or.inl (hw _ (List.mem_of_getElem? (i := 50) rfl))) (by decide) (t := (.array .boolean)) (t' := .int) (by decide) (by decide)))
  have f251 := f233.other W243 (Or.inr (slot_ne (Or.inl (hw _ (List.mem_of_getElem? (i := 83) rfl))) (Or.inl (hw _ (List.mem_of_getElem? (i := 50) rfl))) (by decide) (t := .int) (t' := .int) (by decide) (by decide)))
  have f252 := f234.other W243 (Ne.symm pr14)
  have f253 := f235.other W243 (Ne.symm pr15)
  have f254 := f236.other W243 (Ne.symm ne117)
  have f255 := f237.other W243 (Ne.symm ne153)
  have z256 := Nat.le_trans z238 (Keep.of_wr W243).1
  have kp257 := kp239.wr W243 (Or.inl (List.mem_of_getElem? (i := 0) rfl))
  have f258 : Fld Z h243 o "com/example/quayside/quayside/Row" "reach" "I" (.int (own_maxI r j)) := f229.same W243
  have N243 := Fr.snoc X243 N242 pr11
  refine own_Go.of (S' := (T243.setTop (mkF m 114 #[.val (.ref o), .val (.int (Int32.ofNat i)), .val (.int j)] [(.int (0 : Int32)), (.ref o)]))) (fun t kt => ?_) ?_
  · show Steps p.tables e below (T243.setTop (mkF m 112 #[.val (.ref o), .val (.int (Int32.ofNat i)), .val (.int j)] [])) _
    refine XS.aloadN X243.here hx rfl (own_hb hby d8_112) rfl rfl ?_
    refine XS.iconst X243.here hx rfl (own_hb hby d8_113) ?_
    exact kt
  obtain ⟨T259, h259, X259, e259, W259, st259⟩ := putFN X243 hx hZ hown (hw _ (List.mem_of_getElem? (i := 39) rfl)) Via.refl e243 f248 f244 (Or.inl (hw _ (List.mem_of_getElem? (i := 40) rfl))) (hw _ (List.mem_of_getElem? (i := 6) rfl)) (ty := .boolean) (v' := (.int (nar .boolean (0 : Int32)))) (by decide) rfl (fits_nar_bool _) (g := (mkF m 114 #[.val (.ref o), .val (.int (Int32.ofNat i)), .val (.int j)] [(.int (0 : Int32)), (.ref o)])) rfl rfl (own_hb hby d8_114)
  refine own_Go.of (S' := (T259.setTop (mkF m 117 #[.val (.ref o), .val (.int (Int32.ofNat i)), .val (.int j)] []))) st259 ?_
  have f260 := f244.wr W259
  have f261 := f245.other W259 (Or.inr (slot_ne (Or.inl (hw _ (List.mem_of_getElem? (i := 18) rfl))) (Or.inl (hw _ (List.mem_of_getElem? (i := 40) rfl))) (by decide) (t := (.array .int)) (t' := .boolean) (by decide) (by decide)))
  have f262 := f246.other W259 (Or.inr (slot_ne (Or.inl (hw _ (List.mem_of_getElem? (i := 20) rfl))) (Or.inl (hw _ (List.mem_of_getElem? (i := 40) rfl))) (by decide) (t := (.array .int)) (t' := .boolean) (by decide) (by decide)))
  have f263 := f247.other W259 (Or.inr (slot_ne (Or.inl (hw _ (List.mem_of_getElem? (i := 57) rfl))) (Or.inl (hw _ (List.mem_of_getElem? (i := 40) rfl))) (by decide) (t := .int) (t' := .boolean) (by decide) (by decide)))
  have f264 := f258.other W259 (Or.inr (slot_ne (Or.inl (hw _ (List.mem_of_getElem? (i := 50) rfl))) (Or.inl (hw _ (List.mem_of_getElem? (i := 40) rfl))) (by decide) (t := .int) (t' := .boolean) (by decide) (by decide)))
  have f265 := f249.other W259 (Or.inr (slot_ne (Or.inl (hw _ (List.mem_of_getElem? (i := 15) rfl))) (Or.inl (hw _ (List.mem_of_getElem? (i := 40) rfl))) (by decide) (t := (.array .byte)) (t' := .boolean) (by decide) (by decide)))
  have f266 := f250.other W259 (Or.inr (slot_ne (Or.inl (hw _ (List.mem_of_getElem? (i := 69) rfl))) (Or.inl (hw _ (List.mem_of_getElem? (i := 40) rfl))) (by decide) (t := (.array .boolean)) (t' := .boolean) (by decide) (by decide)))
  have f267 := f251.other W259 (Or.inr (slot_ne (Or.inl (hw _ (List.mem_of_getElem? (i := 83) rfl))) (Or.inl (hw _ (List.mem_of_getElem? (i := 40) rfl))) (by decide) (t := .int) (t' := .boolean) (by decide) (by decide)))
  have f268 := f252.other W259 (Ne.symm pr14)
  have f269 := f253.other W259 (Ne.symm pr15)
  have f270 := f254.other W259 (Ne.symm ne117)
  have f271 := f255.other W259 (Ne.symm ne153)
  have z272 := Nat.le_trans z256 (Keep.of_wr W259).1
  have kp273 := kp257.wr W259 (Or.inl (List.mem_of_getElem? (i := 0) rfl))
  have f274 : Fld Z h259 o "com/example/quayside/quayside/Row" "text" "Z" (.int (nar .boolean (0 : Int32))) := f248.same W259
  have N259 := Fr.snoc X259 N243 pr11
  have f275 : Fld Z h259 o "com/example/quayside/quayside/Row" "text" "Z" (.int (0 : Int32)) := f274
  exact own_retV X259 hx hlk hret (own_hb hby d8_117) e259 ⟨b115, b151, rfl, N259, kp273, sz120, sz157, ne156, f260, f261, f262, f263, f264, f275, f265, f266, f267, f270, f271⟩ (by decide) (by decide)

/-- r is the greatest of the k ends, or 0 -/
def own_Rch (d : Nat → Int32) (k : Nat) (r : Int32) : Prop := (∀ i, i < k → ¬ r < d i) ∧ ¬ r < 0 ∧ (r = 0 ∨ ∃ i, i < k ∧ d i = r)
theorem own_Rch.zero {d : Nat → Int32} : own_Rch d 0 0 := ⟨fun i hi => absurd hi (Nat.not_lt_zero i), by decide, Or.inl rfl⟩
theorem own_nneg {i : Nat} {j : Int32} (hi : i < 2 ^ 31) (h : ¬ j < Int32.ofNat i) : ¬ j < 0 := by
  have h2 := (own_clamp (k := i) hi).2
  rw [Int32.lt_iff_toInt_lt] at *
  omega
theorem own_Rch.add {d : Nat → Int32} {k : Nat} {r j : Int32} (H : own_Rch d k r) (hj : ¬ j < 0) : own_Rch (own_set d k j) (k + 1) (own_maxI r j) := by
  obtain ⟨h1, h2, h3⟩ := H
  unfold own_maxI own_set
  by_cases q : r < j
  · rw [if_pos q]
    refine ⟨fun i hi => ?_, hj, Or.inr ⟨k, Nat.lt_succ_self _, if_pos rfl⟩⟩
    show ¬ j < (if i = k then j else d i)
    by_cases t : i = k
    · rw [if_pos t]; exact Int32.lt_irrefl
    · rw [if_neg t]
      have := h1 i (by omega)
      rw [Int32.lt_iff_toInt_lt] at *
      omega
  · rw [if_neg q]
    refine ⟨fun i hi => ?_, h2, ?_⟩
    · show ¬ r < (if i = k then j else d i)
      by_cases t : i = k
      · rw [if_pos t]; exact q
      · rw [if_neg t]; exact h1 i (by omega)
    · rcases h3 with h3 | ⟨i, hi, h3⟩
      · exact Or.inl h3
      · exact Or.inr ⟨i, by omega, by show (if i = k then j else d i) = r; rw [if_neg (by omega)]; exact h3⟩
theorem own_Rch.cast {d e : Nat → Int32} {k : Nat} {r : Int32} (H : own_Rch d k r) (q : ∀ i, i < k → d i = e i) : own_Rch e k r :=
  ⟨fun i hi => by rw [← q i hi]; exact H.1 i hi, H.2.1, H.2.2.imp id fun ⟨i, hi, h⟩ => ⟨i, hi, by rw [← q i hi]; exact h⟩⟩

def own_Nul (Z : State) (h : Heap) (n0 : Nat) (x o rs re : Addr) (k cap : Nat) : Prop :=
  (Fld Z h o "com/example/quayside/quayside/Row" "nulls" "[Z" .null ∧ Fld Z h o "com/example/quayside/quayside/Row" "nullCount" "I" (.int (0 : Int32))) ∨
  ∃ (rn : Addr) (mn c : Nat) (g : Nat → Int32), Fld Z h o "com/example/quayside/quayside/Row" "nulls" "[Z" (.ref rn) ∧ Fld Z h o "com/example/quayside/quayside/Row" "nullCount" "I" (.int (Int32.ofNat c)) ∧ own_Ar Z h rn .boolean mn (own_I g) ∧ n0 ≤ rn ∧ o ≠ rn ∧ rs ≠ rn ∧ re ≠ rn ∧ x ≠ rn ∧ (mn = 4 ∨ mn = 8) ∧ mn ≤ cap ∧ c ≤ k
def own_Row (Z : State) (h : Heap) (n0 : Nat) (x o : Addr) (k cap : Nat) (d : Nat → Int32) (bs : Addr) : Prop :=
  ∃ (rs re : Addr) (gs ge : Nat → Int32) (tx r : Int32), Exa Z h o "com/example/quayside/quayside/Row" ∧ Fld Z h o "com/example/quayside/quayside/Row" "starts" "[I" (.ref rs) ∧ Fld Z h o "com/example/quayside/quayside/Row" "ends" "[I" (.ref re) ∧ Fld Z h o "com/example/quayside/quayside/Row" "size" "I" (.int (Int32.ofNat k)) ∧ Fld Z h o "com/example/quayside/quayside/Row" "reach" "I" (.int r) ∧ Fld Z h o "com/example/quayside/quayside/Row" "text" "Z" (.int tx) ∧ Fld Z h o "com/example/quayside/quayside/Row" "bytes" "[B" (.ref bs) ∧ own_Ar Z h rs .int cap (own_I gs) ∧ own_Ar Z h re .int cap (own_I ge) ∧ n0 ≤ o ∧ n0 ≤ rs ∧ n0 ≤ re ∧ o ≠ rs ∧ o ≠ re ∧ rs ≠ re ∧ x ≠ o ∧ x ≠ rs ∧ x ≠ re ∧ k ≤ cap ∧ (cap = 4 ∨ cap = 8) ∧ ((∀ i, i < k → ge i = d i) ∧ own_Rch d k r) ∧ own_Nul Z h n0 x o rs re k cap

theorem own_dA {d ge : Nat → Int32} {k : Nat} {v : Int32} (h : ∀ i, i < k → ge i = d i) : ∀ i, i < k + 1 → own_set ge k v i = own_set d k v i := fun i hi => by
  unfold own_set
  by_cases q : i = k
  · rw [if_pos q, if_pos q]
  · rw [if_neg q, if_neg q]; exact h i (by omega)
theorem own_dB {d ge : Nat → Int32} {k cap : Nat} {v : Int32} (hk : k ≤ cap) (h : ∀ i, i < k → ge i = d i) : ∀ i, i < k + 1 → own_set (own_cpy ge cap) k v i = own_set d k v i := fun i hi => by
  unfold own_set own_cpy
  by_cases q : i = k
  · rw [if_pos q, if_pos q]
  · rw [if_neg q, if_neg q, if_pos (by omega)]; exact h i (by omega)


theorem own_Nul.wrx {Z : State} {h h' : Heap} {n0 : Nat} {x o rs re : Addr} {k cap sl : Nat} {v : Value} (W : Wr h h' x sl v) (hxo : x ≠ o) (F : own_Nul Z h n0 x o rs re k cap) : own_Nul Z h' n0 x o rs re k cap := by
  rcases F with ⟨h1, h2⟩ | ⟨rn, mn, c, g, h1, h2, h3, r1, r2, r3, r4, r5, r⟩
  · exact Or.inl ⟨h1.other W (Or.inl (Ne.symm hxo)), h2.other W (Or.inl (Ne.symm hxo))⟩
  · exact Or.inr ⟨rn, mn, c, g, h1.other W (Or.inl (Ne.symm hxo)), h2.other W (Or.inl (Ne.symm hxo)), h3.other W (Ne.symm r5), r1, r2, r3, r4, r5, r⟩
theorem own_Row.exa {Z : State} {h : Heap} {n0 : Nat} {x o : Addr} {k cap : Nat} {d : Nat → Int32} {bs : Addr} (F : own_Row Z h n0 x o k cap d bs) : Exa Z h o "com/example/quayside/quayside/Row" := by
  obtain ⟨rs, re, gs, ge, tx, r, hE, -⟩ := F
  exact hE
theorem own_Row.wrx {Z : State} {h h' : Heap} {n0 : Nat} {x o : Addr} {k cap sl : Nat} {v : Value} {d : Nat → Int32} {bs : Addr} (W : Wr h h' x sl v) (F : own_Row Z h n0 x o k cap d bs) : own_Row Z h' n0 x o k cap d bs := by
  obtain ⟨rs, re, gs, ge, tx, r, hE, f1, f2, f3, f4, f5, f6, a1, a2, g1, g2, g3, n1, n2, n3, n4, n5, n6, k1, k2, k3, hN⟩ := F
  exact ⟨rs, re, gs, ge, tx, r, hE.wr W, f1.other W (Or.inl (Ne.symm n4)), f2.other W (Or.inl (Ne.symm n4)), f3.other W (Or.inl (Ne.symm n4)), f4.other W (Or.inl (Ne.symm n4)), f5.other W (Or.inl (Ne.symm n4)), f6.other W (Or.inl (Ne.symm n4)), a1.other W (Ne.symm n5), a2.other W (Ne.symm n6), g1, g2, g3, n1, n2, n3, n4, n5, n6, k1, k2, k3, hN.wrx W n4⟩


theorem own_Row.cast {Z : State} {h : Heap} {n0 : Nat} {x o : Addr} {k cap : Nat} {d e : Nat → Int32} {bs : Addr} (F : own_Row Z h n0 x o k cap d bs) (q : ∀ i, i < k → d i = e i) : own_Row Z h n0 x o k cap e bs := by
  obtain ⟨rs, re, gs, ge, tx, r, hE, f1, f2, f3, f4, f5, f6, a1, a2, g1, g2, g3, n1, n2, n3, n4, n5, n6, k1, k2, k3, hN⟩ := F
  exact ⟨rs, re, gs, ge, tx, r, hE, f1, f2, f3, f4, f5, f6, a1, a2, g1, g2, g3, n1, n2, n3, n4, n5, n6, k1, k2, ⟨fun i hi => (k3.1 i hi).trans (q i hi), k3.2.cast q⟩, hN⟩


theorem own_scast {d : Nat → Int32} {k : Nat} {v : Int32} (h : d k = v) : ∀ j, j < k + 1 → own_set d k v j = d j := fun j _ => by
  unfold own_set
  by_cases q : j = k
  · rw [if_pos q, q, h]
  · rw [if_neg q]
theorem own_shr1 {e : Nat} (he : e < 2 ^ 31) : ((Int32.ofNat e).toUInt32 >>> ((1 : Int32) &&& 31).toUInt32).toInt32 = Int32.ofNat (e / 2) := by
  apply Int32.toBitVec_inj.mp
  show (BitVec.ofNat 32 e) >>> (1 : BitVec 32) = BitVec.ofNat 32 (e / 2)
  apply BitVec.eq_of_toNat_eq
  rw [BitVec.ushiftRight_eq', BitVec.toNat_ushiftRight, BitVec.toNat_ofNat, BitVec.toNat_ofNat, Nat.shiftRight_eq_div_pow]
  show e % 2 ^ 32 / 2 ^ 1 = e / 2 % 2 ^ 32
  omega
theorem d10_0 : decode prog_62_method_4_code 0 = .ok (.aload_n 0, 1) := by decide +kernel
theorem d10_1 : decode prog_62_method_4_code 1 = .ok (.iconst 0, 1) := by decide +kernel
theorem d10_2 : decode prog_62_method_4_code 2 = .ok (.iconst 0, 1) := by decide +kernel
theorem d10_3 : decode prog_62_method_4_code 3 = .ok (.invokevirtual 63, 3) := by decide +kernel
theorem d10_6 : decode prog_62_method_4_code 6 = .ok (.aload_n 0, 1) := by decide +kernel
theorem d10_7 : decode prog_62_method_4_code 7 = .ok (.getfield 24, 3) := by decide +kernel
theorem d10_10 : decode prog_62_method_4_code 10 = .ok (.ifnull 15, 3) := by decide +kernel
theorem d10_13 : decode prog_62_method_4_code 13 = .ok (.aload_n 0, 1) := by decide +kernel
theorem d10_14 : decode prog_62_method_4_code 14 = .ok (.getfield 24, 3) := by decide +kernel
theorem d10_17 : decode prog_62_method_4_code 17 = .ok (.arraylength, 1) := by decide +kernel
theorem d10_18 : decode prog_62_method_4_code 18 = .ok (.aload_n 0, 1) := by decide +kernel
theorem d10_19 : decode prog_62_method_4_code 19 = .ok (.getfield 34, 3) := by decide +kernel
theorem d10_22 : decode prog_62_method_4_code 22 = .ok (.if_icmp .ge 32, 3) := by decide +kernel
theorem d10_25 : decode prog_62_method_4_code 25 = .ok (.aload_n 0, 1) := by decide +kernel
theorem d10_26 : decode prog_62_method_4_code 26 = .ok (.aload_n 0, 1) := by decide +kernel
theorem d10_27 : decode prog_62_method_4_code 27 = .ok (.getfield 24, 3) := by decide +kernel
theorem d10_30 : decode prog_62_method_4_code 30 = .ok (.ifnonnull 9, 3) := by decide +kernel
theorem d10_33 : decode prog_62_method_4_code 33 = .ok (.iconst 0, 1) := by decide +kernel
theorem d10_34 : decode prog_62_method_4_code 34 = .ok (.newarray .boolean, 2) := by decide +kernel
theorem d10_36 : decode prog_62_method_4_code 36 = .ok (.goto 7, 3) := by decide +kernel
theorem d10_39 : decode prog_62_method_4_code 39 = .ok (.aload_n 0, 1) := by decide +kernel
theorem d10_40 : decode prog_62_method_4_code 40 = .ok (.getfield 24, 3) := by decide +kernel
theorem d10_43 : decode prog_62_method_4_code 43 = .ok (.aload_n 0, 1) := by decide +kernel
theorem d10_44 : decode prog_62_method_4_code 44 = .ok (.getfield 13, 3) := by decide +kernel
theorem d10_47 : decode prog_62_method_4_code 47 = .ok (.arraylength, 1) := by decide +kernel
theorem d10_48 : decode prog_62_method_4_code 48 = .ok (.invokestatic 67, 3) := by decide +kernel
theorem d10_51 : decode prog_62_method_4_code 51 = .ok (.putfield 24, 3) := by decide +kernel
theorem d10_54 : decode prog_62_method_4_code 54 = .ok (.aload_n 0, 1) := by decide +kernel
theorem d10_55 : decode prog_62_method_4_code 55 = .ok (.getfield 24, 3) := by decide +kernel
theorem d10_58 : decode prog_62_method_4_code 58 = .ok (.aload_n 0, 1) := by decide +kernel
theorem d10_59 : decode prog_62_method_4_code 59 = .ok (.getfield 34, 3) := by decide +kernel
theorem d10_62 : decode prog_62_method_4_code 62 = .ok (.iconst 1, 1) := by decide +kernel
theorem d10_63 : decode prog_62_method_4_code 63 = .ok (.isub, 1) := by decide +kernel
theorem d10_64 : decode prog_62_method_4_code 64 = .ok (.iconst 1, 1) := by decide +kernel
theorem d10_65 : decode prog_62_method_4_code 65 = .ok (.bastore, 1) := by decide +kernel
theorem d10_66 : decode prog_62_method_4_code 66 = .ok (.aload_n 0, 1) := by decide +kernel
theorem d10_67 : decode prog_62_method_4_code 67 = .ok (.dup, 1) := by decide +kernel
theorem d10_68 : decode prog_62_method_4_code 68 = .ok (.getfield 20, 3) := by decide +kernel
theorem d10_71 : decode prog_62_method_4_code 71 = .ok (.iconst 1, 1) := by decide +kernel
theorem d10_72 : decode prog_62_method_4_code 72 = .ok (.iadd, 1) := by decide +kernel
theorem d10_73 : decode prog_62_method_4_code 73 = .ok (.putfield 20, 3) := by decide +kernel
theorem d10_76 : decode prog_62_method_4_code 76 = .ok (.return_, 1) := by decide +kernel
theorem pn_10 : plainName "com/example/quayside/quayside/Row" = true := by first | (simp [plainName, overriddenIn]; done) | decide +kernel
theorem pd_2 : parseMethodDescriptor "(II)V" = some ⟨[.int, .int], none⟩ := by decide +kernel
theorem pd_3 : parseMethodDescriptor "([ZI)[Z" = some ⟨[(.array .boolean), .int], some (.array .boolean)⟩ := by decide +kernel
def Q_rm10g (Z : State) (x : Addr) (o : Addr) (k : Nat) (cap : Nat) (d : Nat → Int32) (bs : Addr) (h0 : Heap) (n0 : Nat) (v : Option Value) (h : Heap) (L : List Loc) : Prop := ∃ cap' : Nat, v = none ∧ Fr n0 L ∧ own_Kx h0 h x ∧ (own_Row Z h n0 x o (k + 1) cap' (own_set d k (0 : Int32)) bs)
set_option maxRecDepth 65536 in
set_option maxHeartbeats 40000000 in
theorem rm10g (l : Launch) (Z : State) (a0 : Array Value) (hw : ∀ d ∈ tables_1, d.before a0 Z = true) (ws : List Jvm.Cond) (x : Addr) (o : Addr) (k : Nat) (cap : Nat) (d : Nat → Int32) (bs : Addr) (h0 : Heap) (n0 : Nat) (Z0 : n0 ≤ h0.size) (row : own_Row Z h0 n0 x o k cap d bs) (hk : k ≤ 6) (pr2 : own_Lt h0 x) :
    own_Met l Z h0 (⟨"com/example/quayside/quayside/Row", "addNull", "()V"⟩ : MethodName) prog_62_method_4_code 1 none ws ({ frames := 3, cells := 4, slots := 24, locals := 47 } : Room) #[(.ref o)] (Q_rm10g Z x o k cap d bs h0 n0) := by
  refine own_enter (plainFor_of_name pn_10) ?_
  intro p e s m below meth c T0 X0 hx hby hml hret hlk hown hnm hZ e0
  have N0 := Fr.nil n0
  have kx0 : own_Kx h0 h0 x := own_Kx.refl
  rw [show entryFrame m #[(.ref o)] 1 = (mkF m 0 #[.val (.ref o)] []) from by first | (simp [entryFrame, mkF, argsToLocals, Value.category]; done) | rfl]
  obtain ⟨rs, re, gs, ge, tx, r, hE, hF1, hF2, hF3, hF4, hF5, hF6, hA1, hA2, hg1, hg2, hg3, hn1, hn2, hn3, hn4, hn5, hn6, hkc, hcap, hge, hN⟩ := row
  rcases hN with ⟨hm1, hm2⟩ | ⟨rn, mn, c', g, hm1, hm2, hA3, hg4, hn7, hn8, hn9, hn10, hmn, hmc, hck⟩
  · skip
    by_cases hkk : k < cap
    · skip
      refine own_Go.of (S' := (T0.setTop (mkF m 3 #[.val (.ref o)] [(.int (0 : Int32)), (.int (0 : Int32)), (.ref o)]))) (fun t kt => ?_) ?_
      · show Steps p.tables e below (T0.setTop (mkF m 0 #[.val (.ref o)] [])) _
        refine XS.aloadN X0.here hx rfl (own_hb hby d10_0) rfl rfl ?_
        refine XS.iconst X0.here hx rfl (own_hb hby d10_1) ?_
        refine XS.iconst X0.here hx rfl (own_hb hby d10_2) ?_
        exact kt
      obtain ⟨cq276, kq276, q276a, q276b, q276c⟩ := isOf hZ e0 hE
      obtain ⟨_, _, ⟨T276, L276, k276, n276⟩, -, X276, ⟨Lc276, hQ276, l276, y276, z276⟩, st276⟩ := X0.virtualBack hx (y := (⟨"com/example/quayside/quayside/Row", "add", "(II)V"⟩ : MethodName)) (z := (⟨"com/example/quayside/quayside/Row", "add", "(II)V"⟩ : MethodName)) hown (mvT hZ (hw _ (List.mem_of_getElem? (i := 67) rfl))) (mvT hZ (hw _ (List.mem_of_getElem? (i := 52) rfl))) (notFace_of_selects (args := #[]) (mvT hZ (hw _ (List.mem_of_getElem? (i := 54) rfl)))) (mvT hZ (hw _ (List.mem_of_getElem? (i := 54) rfl))) (mvT hZ (hw _ (List.mem_of_getElem? (i := 53) rfl))) (by decide) (backOf (W := 0) (rm8s l Z a0 hw [] o 0 (0 : Int32) rs re k cap gs ge r tx bs .null (0 : Int32) h0 n0 Z0 hE hF1 hF2 hF3 hF4 hF5 hF6 hm1 hm2 hA1 hA2 hg1 hg2 hg3 hn1 hn2 hn3 (by decide) (by decide) (by omega) (by omega)) hZ (hw _ (List.mem_of_getElem? (i := 55) rfl)) (hw _ (List.mem_of_getElem? (i := 7) rfl)) (by decide) (by decide)) q276a q276c (g := (mkF m 3 #[.val (.ref o)] [(.int (0 : Int32)), (.int (0 : Int32)), (.ref o)])) rfl (by rw [hml]; rfl) (Steps.refl _) (argsL := [(.int (0 : Int32)), (.int (0 : Int32))]) (rest := []) (lenOf pd_2 rfl) rfl (by show 2 * 0 + _ ≤ _; exact Nat.le_of_eq rfl) (own_hb hby d10_3) (fun _ _ => ⟨rfl, e0, (by decide : 0 + 0 ≤ _), (by decide : 0 + 0 ≤ _)⟩)
      dsimp only [Pt.U, Pt.locs, Pt.cells, Pt.slots] at X276 l276 y276 z276 st276 hQ276
      subst l276 y276 z276
      obtain ⟨rfl, N276q, K276, p276_0, p276_1, p276_2, p276_3, p276_4, p276_5, p276_6, p276_7, p276_8, p276_9, p276_10⟩ := hQ276
      have N276 := Fr.app N0 N276q
      refine own_Go.of (S' := (T276.setTop (mkF m 6 #[.val (.ref o)] []))) (fun t kt => st276.trans kt) ?_
      have kx277 := kx0.keep K276 (ninS hn4 (ninS hn5 (ninS hn6 nin0)))
      have f278 := pr2.keep K276
      have f279 := hE.keep K276
      have z280 := Nat.le_trans Z0 K276.1
      refine own_Go.of (S' := (T276.setTop (mkF m 7 #[.val (.ref o)] [(.ref o)]))) (fun t kt => ?_) ?_
      · show Steps p.tables e below (T276.setTop (mkF m 6 #[.val (.ref o)] [])) _
        refine XS.aloadN X276.here hx rfl (own_hb hby d10_6) rfl rfl ?_
        exact kt
      obtain ⟨T281, X281, e281, st281⟩ := getF X276 hx hZ hown (host := "") (Or.inl (hw _ (List.mem_of_getElem? (i := 68) rfl))) Via.refl rfl p276_7 (g := (mkF m 7 #[.val (.ref o)] [(.ref o)])) rfl rfl (own_hb hby d10_7)
      refine own_Go.of (S' := (T281.setTop (mkF m 10 #[.val (.ref o)] [.null]))) st281 ?_
      refine own_Go.of (S' := (T281.setTop (mkF m 27 #[.val (.ref o)] [(.ref o), (.ref o)]))) (fun t kt => ?_) ?_
      · show Steps p.tables e below (T281.setTop (mkF m 10 #[.val (.ref o)] [.null])) _
        refine XS.ifnullYes X281.here hx rfl (pc0 := 10) (pc' := 25) rfl (own_hb hby d10_10) rfl (by decide) (by decide) ?_
        refine XS.aloadN X281.here hx rfl (own_hb hby d10_25) rfl rfl ?_
        refine XS.aloadN X281.here hx rfl (own_hb hby d10_26) rfl rfl ?_
        exact kt
      obtain ⟨T282, X282, e282, st282⟩ := getF X281 hx hZ hown (host := "") (Or.inl (hw _ (List.mem_of_getElem? (i := 68) rfl))) Via.refl e281 p276_7 (g := (mkF m 27 #[.val (.ref o)] [(.ref o), (.ref o)])) rfl rfl (own_hb hby d10_27)
      refine own_Go.of (S' := (T282.setTop (mkF m 30 #[.val (.ref o)] [.null, (.ref o)]))) st282 ?_
      refine own_Go.of (S' := (T282.setTop (mkF m 34 #[.val (.ref o)] [(.int (0 : Int32)), (.ref o)]))) (fun t kt => ?_) ?_
      · show Steps p.tables e below (T282.setTop (mkF m 30 #[.val (.ref o)] [.null, (.ref o)])) _
        refine XS.ifnonnullNo X282.here hx rfl (own_hb hby d10_30) rfl ?_
        refine XS.iconst X282.here hx rfl (own_hb hby d10_33) ?_
        exact kt
      obtain ⟨T283, h283, X283, e283, E283, A283, st283⟩ := own_newP X282 hx hZ (hw _ (List.mem_of_getElem? (i := 70) rfl)) e282 (g := (mkF m 34 #[.val (.ref o)] [(.int (0 : Int32)), (.ref o)])) rfl (own_hb hby d10_34) rfl (n := 0) (cap := 0) rfl (by decide) (by decide) (by decide) (by decide)
      obtain ⟨b283, g283⟩ : ∃ z, z = T276.heap.size := ⟨_, rfl⟩
      rw [← g283] at A283 st283
      have gx283 : n0 ≤ b283 := Nat.le_trans z280 (Nat.le_of_eq g283.symm)
      have ne284 : x ≠ b283 := Nat.ne_of_lt (Nat.lt_of_lt_of_le f278.lt (Nat.le_of_eq g283.symm))
      have ne285 : o ≠ b283 := Nat.ne_of_lt (Nat.lt_of_lt_of_le p276_0.lt (Nat.le_of_eq g283.symm))
      have ne286 : rs ≠ b283 := Nat.ne_of_lt (Nat.lt_of_lt_of_le p276_9.lt (Nat.le_of_eq g283.symm))
      have ne287 : re ≠ b283 := Nat.ne_of_lt (Nat.lt_of_lt_of_le p276_10.lt (Nat.le_of_eq g283.symm))
      refine own_Go.of (S' := (T283.setTop (mkF m 36 #[.val (.ref o)] [(.ref b283), (.ref o)]))) st283 ?_
      have kx288 := kx277.ext E283
      have f289 := f278.ext E283
      have f290 := p276_0.ext E283
      have f291 := p276_1.ext E283
      have f292 := p276_2.ext E283
      have f293 := p276_3.ext E283
      have f294 := p276_4.ext E283
      have f295 := p276_5.ext E283
      have f296 := p276_6.ext E283
      have f297 := p276_7.ext E283
      have f298 := p276_8.ext E283
      have f299 := p276_9.ext E283
      have f300 := p276_10.ext E283
      have z301 := Nat.le_trans z280 E283.1
      have f302 : own_Ar Z h283 b283 .boolean 0 (own_I (fun _ => (0 : Int32))) := A283
      refine own_Go.of (S' := (T283.setTop (mkF m 44 #[.val (.ref o)] [(.ref o), (.ref b283), (.ref o)]))) (fun t kt => ?_) ?_
      · show Steps p.tables e below (T283.setTop (mkF m 36 #[.val (.ref o)] [(.ref b283), (.ref o)])) _
        refine XS.goto X283.here hx rfl (pc0 := 36) (pc' := 43) rfl (own_hb hby d10_36) (by decide) (by decide) ?_
        refine XS.aloadN X283.here hx rfl (own_hb hby d10_43) rfl rfl ?_
        exact kt
      obtain ⟨T303, X303, e303, st303⟩ := getF X283 hx hZ hown (host := "") (Or.inl (hw _ (List.mem_of_getElem? (i := 17) rfl))) Via.refl e283 f291 (g := (mkF m 44 #[.val (.ref o)] [(.ref o), (.ref b283), (.ref o)])) rfl rfl (own_hb hby d10_44)
      refine own_Go.of (S' := (T303.setTop (mkF m 47 #[.val (.ref o)] [(.ref rs), (.ref b283), (.ref o)]))) st303 ?_
      obtain ⟨cl304, Ar304, hln304⟩ := own_Ar.len f299
      refine own_Go.of (S' := (T303.setTop (mkF m 48 #[.val (.ref o)] [(.int (Int32.ofNat cap)), (.ref b283), (.ref o)]))) (fun t kt => ?_) ?_
      · show Steps p.tables e below (T303.setTop (mkF m 47 #[.val (.ref o)] [(.ref rs), (.ref b283), (.ref o)])) _
        refine X303.arraylength hx (by rw [e303]; exact Ar304.1) (State.isArrayOf_alike hZ.alike Ar304.2.1) (g := (mkF m 47 #[.val (.ref o)] [(.ref rs), (.ref b283), (.ref o)])) rfl rfl (own_hb hby d10_47) _ ?_
        rw [hln304]
        exact kt
      obtain ⟨_, _, ⟨T305, L305, k305, n305⟩, -, X305, ⟨Lc305, hQ305, l305, y305, z305⟩, st305⟩ := Jvm.LawKit.callS X303 hx (y := (⟨"java/util/Arrays", "copyOf", "([ZI)[Z"⟩ : MethodName)) hown (mvT hZ (hw _ (List.mem_of_getElem? (i := 71) rfl))) (mvT hZ (hw _ (List.mem_of_getElem? (i := 72) rfl))) (mvT hZ (hw _ (List.mem_of_getElem? (i := 73) rfl))) (mvT hZ (hw _ (List.mem_of_getElem? (i := 74) rfl))) (by decide) (backOf (W := 1) (rm11 l Z a0 hw [] b283 cap 0 (fun _ => (0 : Int32)) h283 n0 z301 f302 (by omega) (by omega)) hZ (hw _ (List.mem_of_getElem? (i := 74) rfl)) (hw _ (List.mem_of_getElem? (i := 73) rfl)) (by decide) (by decide)) (g := (mkF m 48 #[.val (.ref o)] [(.int (Int32.ofNat cap)), (.ref b283), (.ref o)])) rfl (by rw [hml]; rfl) (argsL := [(.ref b283), (.int (Int32.ofNat cap))]) (rest := [(.ref o)]) (lenOf pd_3 rfl) rfl (by show 2 * 0 + _ ≤ _; exact Nat.le_of_eq rfl) (own_hb hby d10_48) (fun _ _ => ⟨rfl, e303, (by decide : 1 + 1 ≤ _), (by decide : 0 + 8 ≤ _)⟩)
      dsimp only [Pt.U, Pt.locs, Pt.cells, Pt.slots] at X305 l305 y305 z305 st305 hQ305
      subst l305 y305 z305
      obtain ⟨b305, rfl, N305q, K305, p305_0, p305_1⟩ := hQ305
      have N305 := Fr.app N276 N305q
      refine own_Go.of (S' := (T305.setTop (mkF m 51 #[.val (.ref o)] [(.ref b305), (.ref o)]))) (fun t kt => st305 t kt) ?_
      have gx306 : n0 ≤ b305 := Nat.le_trans z301 p305_0
      have ne307 : x ≠ b305 := Nat.ne_of_lt (Nat.lt_of_lt_of_le f289.lt p305_0)
      have ne308 : o ≠ b305 := Nat.ne_of_lt (Nat.lt_of_lt_of_le f290.lt p305_0)
      have ne309 : rs ≠ b305 := Nat.ne_of_lt (Nat.lt_of_lt_of_le f299.lt p305_0)
      have ne310 : re ≠ b305 := Nat.ne_of_lt (Nat.lt_of_lt_of_le f300.lt p305_0)
      have ne311 : b283 ≠ b305 := Nat.ne_of_lt (Nat.lt_of_lt_of_le f302.lt p305_0)
      have kx312 := kx288.keep K305 nin0
      have f313 := f289.keep K305
      have f314 := f290.keep K305
      have f315 := f291.keep K305 nin0
      have f316 := f292.keep K305 nin0
      have f317 := f293.keep K305 nin0
      have f318 := f294.keep K305 nin0
      have f319 := f295.keep K305 nin0
      have f320 := f296.keep K305 nin0
      have f321 := f297.keep K305 nin0
      have f322 := f298.keep K305 nin0
      have f323 := f299.keep K305 nin0
      have f324 := f300.keep K305 nin0
      have f325 := f302.keep K305 nin0
      have z326 := Nat.le_trans z301 K305.1
      obtain ⟨T327, h327, X327, e327, W327, st327⟩ := putF X305 hx hZ hown (host := "") (Or.inl (hw _ (List.mem_of_getElem? (i := 68) rfl))) Via.refl rfl f321 f314 (Or.inl (hw _ (List.mem_of_getElem? (i := 69) rfl))) (hw _ (List.mem_of_getElem? (i := 6) rfl)) (ty := (.array .boolean)) (by decide) rfl rfl (g := (mkF m 51 #[.val (.ref o)] [(.ref b305), (.ref o)])) rfl rfl (own_hb hby d10_51)
      refine own_Go.of (S' := (T327.setTop (mkF m 54 #[.val (.ref o)] []))) st327 ?_
      have kx328 := kx312.wr W327 hn4
      have f329 := f313.wr W327
      have f330 := f314.wr W327
      have f331 := f315.other W327 (Or.inr (slot_ne (Or.inl (hw _ (List.mem_of_getElem? (i := 18) rfl))) (Or.inl (hw _ (List.mem_of_getElem? (i := 69) rfl))) (by decide) (t := (.array .int)) (t' := (.array .boolean)) (by decide) (by decide)))
      have f332 := f316.other W327 (Or.inr (slot_ne (Or.inl (hw _ (List.mem_of_getElem? (i := 20) rfl))) (Or.inl (hw _ (List.mem_of_getElem? (i := 69) rfl))) (by decide) (t := (.array .int)) (t' := (.array .boolean)) (by decide) (by decide)))
      have f333 := f317.other W327 (Or.inr (slot_ne (Or.inl (hw _ (List.mem_of_getElem? (i := 57) rfl))) (Or.inl (hw _ (List.mem_of_getElem? (i := 69) rfl))) (by decide) (t := .int) (t' := (.array .boolean)) (by decide) (by decide)))
      have f334 := f318.other W327 (Or.inr (slot_ne (Or.inl (hw _ (List.mem_of_getElem? (i := 50) rfl))) (Or.inl (hw _ (List.mem_of_getElem? (i := 69) rfl))) (by decide) (t := .int) (t' := (.array .boolean)) (by decide) (by decide)))
      have f335 := f319.other W327 (Or.inr (slot_ne (Or.inl (hw _ (List.mem_of_getElem? (i := 40) rfl))) (Or.inl (hw _ (List.mem_of_getElem? (i := 69) rfl))) (by decide) (t := .boolean) (t' := (.array .boolean)) (by decide) (by decide)))
      have f336 := f320.other W327 (Or.inr (slot_ne (Or.inl (hw _ (List.mem_of_getElem? (i := 15) rfl))) (Or.inl (hw _ (List.mem_of_getElem? (i := 69) rfl))) (by decide) (t := (.array .byte)) (t' := (.array .boolean)) (by decide) (by decide)))
      have f337 := f322.other W327 (Or.inr (slot_ne (Or.inl (hw _ (List.mem_of_getElem? (i := 83) rfl))) (Or.inl (hw _ (List.mem_of_getElem? (i := 69) rfl))) (by decide) (t := .int) (t' := (.array .boolean)) (by decide) (by decide)))
      have f338 := f323.other W327 (Ne.symm hn1)
      have f339 := f324.other W327 (Ne.symm hn2)
      have f340 := f325.other W327 (Ne.symm ne285)
      have f341 := p305_1.other W327 (Ne.symm ne308)
      have z342 := Nat.le_trans z326 (Keep.of_wr W327).1
      have f343 : Fld Z h327 o "com/example/quayside/quayside/Row" "nulls" "[Z" (.ref b305) := f321.same W327
      have N327 := Fr.snoc X327 N305 hg1
      refine own_Go.of (S' := (T327.setTop (mkF m 55 #[.val (.ref o)] [(.ref o)]))) (fun t kt => ?_) ?_
      · show Steps p.tables e below (T327.setTop (mkF m 54 #[.val (.ref o)] [])) _
        refine XS.aloadN X327.here hx rfl (own_hb hby d10_54) rfl rfl ?_
        exact kt
      obtain ⟨T344, X344, e344, st344⟩ := getF X327 hx hZ hown (host := "") (Or.inl (hw _ (List.mem_of_getElem? (i := 68) rfl))) Via.refl e327 f343 (g := (mkF m 55 #[.val (.ref o)] [(.ref o)])) rfl rfl (own_hb hby d10_55)
      refine own_Go.of (S' := (T344.setTop (mkF m 58 #[.val (.ref o)] [(.ref b305)]))) st344 ?_
      refine own_Go.of (S' := (T344.setTop (mkF m 59 #[.val (.ref o)] [(.ref o), (.ref b305)]))) (fun t kt => ?_) ?_
      · show Steps p.tables e below (T344.setTop (mkF m 58 #[.val (.ref o)] [(.ref b305)])) _
        refine XS.aloadN X344.here hx rfl (own_hb hby d10_58) rfl rfl ?_
        exact kt
      obtain ⟨T345, X345, e345, st345⟩ := getF X344 hx hZ hown (host := "") (Or.inl (hw _ (List.mem_of_getElem? (i := 56) rfl))) Via.refl e344 f333 (g := (mkF m 59 #[.val (.ref o)] [(.ref o), (.ref b305)])) rfl rfl (own_hb hby d10_59)
      refine own_Go.of (S' := (T345.setTop (mkF m 62 #[.val (.ref o)] [(.int (Int32.ofNat (k + 1))), (.ref b305)]))) st345 ?_
      refine own_Go.of (S' := (T345.setTop (mkF m 65 #[.val (.ref o)] [(.int (1 : Int32)), (.int (Int32.ofNat k)), (.ref b305)]))) (fun t kt => ?_) ?_
      · show Steps p.tables e below (T345.setTop (mkF m 62 #[.val (.ref o)] [(.int (Int32.ofNat (k + 1))), (.ref b305)])) _
        refine XS.iconst X345.here hx rfl (own_hb hby d10_62) ?_
        refine XS.isub X345.here hx rfl (own_hb hby d10_63) rfl ?_
        show Steps p.tables e below (T345.setTop (mkF m 64 #[.val (.ref o)] [(.int ((Int32.ofNat (k + 1)) - (1 : Int32))), (.ref b305)])) _
        rw [show Int32.ofNat (k + 1) - (1 : Int32) = Int32.ofNat k from own_subN (a := k + 1) (b := 1) (by omega)]
        refine XS.iconst X345.here hx rfl (own_hb hby d10_64) ?_
        exact kt
      obtain ⟨cl346, Ar346, hin346, ub346⟩ := own_Ar.put (j := (Int32.ofNat k)) (k := k) f341 ⟨rfl, by omega⟩
      obtain ⟨T346, h346, X346, e346, W346, st346⟩ := stZ X345 hx hZ e345 Ar346 (j := (Int32.ofNat k)) hin346 (g := (mkF m 65 #[.val (.ref o)] [(.int (1 : Int32)), (.int (Int32.ofNat k)), (.ref b305)])) rfl rfl (own_hb hby d10_65)
      refine own_Go.of (S' := (T346.setTop (mkF m 66 #[.val (.ref o)] []))) st346 ?_
      have kx347 := kx328.wr W346 ne307
      have f348 := f329.wr W346
      have f349 := f330.wr W346
      have f350 := f331.other W346 (Or.inl ne308)
      have f351 := f332.other W346 (Or.inl ne308)
      have f352 := f333.other W346 (Or.inl ne308)
      have f353 := f334.other W346 (Or.inl ne308)
      have f354 := f335.other W346 (Or.inl ne308)
      have f355 := f336.other W346 (Or.inl ne308)
      have f356 := f343.other W346 (Or.inl ne308)
      have f357 := f337.other W346 (Or.inl ne308)
      have f358 := f338.other W346 ne309
      have f359 := f339.other W346 ne310
      have f360 := f340.other W346 ne311
      have z361 := Nat.le_trans z342 (Keep.of_wr W346).1
      have f362 : own_Ar Z h346 b305 .boolean cap (own_I (own_set (own_cpy (fun _ => (0 : Int32)) 0) k (nar .boolean (1 : Int32)))) := by rw [← own_upI]; exact ub346 (fits_nar_bool _) W346
      have N346 := Fr.snoc X346 N327 gx306
      refine own_Go.of (S' := (T346.setTop (mkF m 68 #[.val (.ref o)] [(.ref o), (.ref o)]))) (fun t kt => ?_) ?_
      · show Steps p.tables e below (T346.setTop (mkF m 66 #[.val (.ref o)] [])) _
        refine XS.aloadN X346.here hx rfl (own_hb hby d10_66) rfl rfl ?_
        refine XS.dup X346.here hx rfl (own_hb hby d10_67) rfl rfl ?_
        exact kt
      obtain ⟨T363, X363, e363, st363⟩ := getF X346 hx hZ hown (host := "") (Or.inl (hw _ (List.mem_of_getElem? (i := 82) rfl))) Via.refl e346 f357 (g := (mkF m 68 #[.val (.ref o)] [(.ref o), (.ref o)])) rfl rfl (own_hb hby d10_68)
      refine own_Go.of (S' := (T363.setTop (mkF m 71 #[.val (.ref o)] [(.int (0 : Int32)), (.ref o)]))) st363 ?_
      refine own_Go.of (S' := (T363.setTop (mkF m 73 #[.val (.ref o)] [(.int (Int32.ofNat 1)), (.ref o)]))) (fun t kt => ?_) ?_
      · show Steps p.tables e below (T363.setTop (mkF m 71 #[.val (.ref o)] [(.int (0 : Int32)), (.ref o)])) _
        refine XS.iconst X363.here hx rfl (own_hb hby d10_71) ?_
        refine XS.iadd X363.here hx rfl (own_hb hby d10_72) rfl ?_
        show Steps p.tables e below (T363.setTop (mkF m 73 #[.val (.ref o)] [(.int ((0 : Int32) + (1 : Int32))), (.ref o)])) _
        rw [show (0 : Int32) + (1 : Int32) = Int32.ofNat 1 from rfl]
        exact kt
      obtain ⟨T364, h364, X364, e364, W364, st364⟩ := putF X363 hx hZ hown (host := "") (Or.inl (hw _ (List.mem_of_getElem? (i := 82) rfl))) Via.refl e363 f357 f349 (Or.inl (hw _ (List.mem_of_getElem? (i := 83) rfl))) (hw _ (List.mem_of_getElem? (i := 6) rfl)) (ty := .int) (by decide) rfl rfl (g := (mkF m 73 #[.val (.ref o)] [(.int (Int32.ofNat 1)), (.ref o)])) rfl rfl (own_hb hby d10_73)
      refine own_Go.of (S' := (T364.setTop (mkF m 76 #[.val (.ref o)] []))) st364 ?_
      have kx365 := kx347.wr W364 hn4
      have f366 := f348.wr W364
      have f367 := f349.wr W364
      have f368 := f350.other W364 (Or.inr (slot_ne (Or.inl (hw _ (List.mem_of_getElem? (i := 18) rfl))) (Or.inl (hw _ (List.mem_of_getElem? (i := 83) rfl))) (by decide) (t := (.array .int)) (t' := .int) (by decide) (by decide)))
      have f369 := f351.other W364 (Or.inr (slot_ne (Or.inl (hw _ (List.mem_of_getElem? (i := 20) rfl))) (Or.inl (hw _ (List.mem_of_getElem? (i := 83) rfl))) (by decide) (t := (.array .int)) (t' := .int) (by decide) (by decide)))
      have f370 := f352.other W364 (Or.inr (slot_ne (Or.inl (hw _ (List.mem_of_getElem? (i := 57) rfl))) (Or.inl (hw _ (List.mem_of_getElem? (i := 83) rfl))) (by decide) (t := .int) (t' := .int) (by decide) (by decide)))
      have f371 := f353.other W364 (Or.inr (slot_ne (Or.inl (hw _ (List.mem_of_getElem? (i := 50) rfl))) (Or.inl (hw _ (List.mem_of_getElem? (i := 83) rfl))) (by decide) (t := .int) (t' := .int) (by decide) (by decide)))
      have f372 := f354.other W364 (Or.inr (slot_ne (Or.inl (hw _ (List.mem_of_getElem? (i := 40) rfl))) (Or.inl (hw _ (List.mem_of_getElem? (i := 83) rfl))) (by decide) (t := .boolean) (t' := .int) (by decide) (by decide)))
      have f373 := f355.other W364 (Or.inr (slot_ne (Or.inl (hw _ (List.mem_of_getElem? (i := 15) rfl))) (Or.inl (hw _ (List.mem_of_getElem? (i := 83) rfl))) (by decide) (t := (.array .byte)) (t' := .int) (by decide) (by decide)))
      have f374 := f356.other W364 (Or.inr (slot_ne (Or.inl (hw _ (List.mem_of_getElem? (i := 69) rfl))) (Or.inl (hw _ (List.mem_of_getElem? (i := 83) rfl))) (by decide) (t := (.array .boolean)) (t' := .int) (by decide) (by decide)))
      have f375 := f358.other W364 (Ne.symm hn1)
      have f376 := f359.other W364 (Ne.symm hn2)
      have f377 := f360.other W364 (Ne.symm ne285)
      have f378 := f362.other W364 (Ne.symm ne308)
      have z379 := Nat.le_trans z361 (Keep.of_wr W364).1
      have f380 : Fld Z h364 o "com/example/quayside/quayside/Row" "nullCount" "I" (.int (Int32.ofNat 1)) := f357.same W364
      have N364 := Fr.snoc X364 N346 hg1
      exact own_retV X364 hx hlk hret (own_hb hby d10_76) e364 ⟨cap, rfl, N364, kx365, ⟨rs, re, (own_set gs k (Int32.ofNat 0)), (own_set ge k (0 : Int32)), (0 : Int32), (own_maxI r (0 : Int32)), f367, f368, f369, f370, f371, f372, f373, f375, f376, hg1, hg2, hg3, hn1, hn2, hn3, hn4, hn5, hn6, (by omega), (by omega), ⟨own_dA hge.1, own_Rch.add hge.2 (by decide)⟩, Or.inr ⟨b305, cap, 1, (own_set (own_cpy (fun _ => (0 : Int32)) 0) k (nar .boolean (1 : Int32))), f374, f380, f378, gx306, ne308, ne309, ne310, ne307, (by omega), (by omega), (by omega)⟩⟩⟩ (by decide) (by decide)
    · skip
      refine own_Go.of (S' := (T0.setTop (mkF m 3 #[.val (.ref o)] [(.int (0 : Int32)), (.int (0 : Int32)), (.ref o)]))) (fun t kt => ?_) ?_
      · show Steps p.tables e below (T0.setTop (mkF m 0 #[.val (.ref o)] [])) _
        refine XS.aloadN X0.here hx rfl (own_hb hby d10_0) rfl rfl ?_
        refine XS.iconst X0.here hx rfl (own_hb hby d10_1) ?_
        refine XS.iconst X0.here hx rfl (own_hb hby d10_2) ?_
        exact kt
      obtain ⟨cq381, kq381, q381a, q381b, q381c⟩ := isOf hZ e0 hE
      obtain ⟨_, _, ⟨T381, L381, k381, n381⟩, -, X381, ⟨Lc381, hQ381, l381, y381, z381⟩, st381⟩ := X0.virtualBack hx (y := (⟨"com/example/quayside/quayside/Row", "add", "(II)V"⟩ : MethodName)) (z := (⟨"com/example/quayside/quayside/Row", "add", "(II)V"⟩ : MethodName)) hown (mvT hZ (hw _ (List.mem_of_getElem? (i := 67) rfl))) (mvT hZ (hw _ (List.mem_of_getElem? (i := 52) rfl))) (notFace_of_selects (args := #[]) (mvT hZ (hw _ (List.mem_of_getElem? (i := 54) rfl)))) (mvT hZ (hw _ (List.mem_of_getElem? (i := 54) rfl))) (mvT hZ (hw _ (List.mem_of_getElem? (i := 53) rfl))) (by decide) (backOf (W := 0) (rm8g l Z a0 hw [] o 0 (0 : Int32) rs re k cap gs ge r tx bs .null (0 : Int32) h0 n0 Z0 hE hF1 hF2 hF3 hF4 hF5 hF6 hm1 hm2 hA1 hA2 hg1 hg2 hg3 hn1 hn2 hn3 (by decide) (by decide) (by omega) (by omega)) hZ (hw _ (List.mem_of_getElem? (i := 55) rfl)) (hw _ (List.mem_of_getElem? (i := 7) rfl)) (by decide) (by decide)) q381a q381c (g := (mkF m 3 #[.val (.ref o)] [(.int (0 : Int32)), (.int (0 : Int32)), (.ref o)])) rfl (by rw [hml]; rfl) (Steps.refl _) (argsL := [(.int (0 : Int32)), (.int (0 : Int32))]) (rest := []) (lenOf pd_2 rfl) rfl (by show 2 * 0 + _ ≤ _; exact Nat.le_of_eq rfl) (own_hb hby d10_3) (fun _ _ => ⟨rfl, e0, (by decide : 0 + 2 ≤ _), (by decide : 0 + 16 ≤ _)⟩)
      dsimp only [Pt.U, Pt.locs, Pt.cells, Pt.slots] at X381 l381 y381 z381 st381 hQ381
      subst l381 y381 z381
      obtain ⟨rs'381, re'381, rfl, N381q, K381, p381_0, p381_1, p381_2, p381_3, p381_4, p381_5, p381_6, p381_7, p381_8, p381_9, p381_10, p381_11, p381_12, p381_13⟩ := hQ381
      have N381 := Fr.app N0 N381q
      refine own_Go.of (S' := (T381.setTop (mkF m 6 #[.val (.ref o)] []))) (fun t kt => st381.trans kt) ?_
      have gx382 : n0 ≤ rs'381 := Nat.le_trans Z0 p381_0
      have ne383 : x ≠ rs'381 := Nat.ne_of_lt (Nat.lt_of_lt_of_le pr2.lt p381_0)
      have ne384 : o ≠ rs'381 := Nat.ne_of_lt (Nat.lt_of_lt_of_le hE.lt p381_0)
      have ne385 : rs ≠ rs'381 := Nat.ne_of_lt (Nat.lt_of_lt_of_le hA1.lt p381_0)
      have ne386 : re ≠ rs'381 := Nat.ne_of_lt (Nat.lt_of_lt_of_le hA2.lt p381_0)
      have gx387 : n0 ≤ re'381 := Nat.le_trans Z0 p381_1
      have ne388 : x ≠ re'381 := Nat.ne_of_lt (Nat.lt_of_lt_of_le pr2.lt p381_1)
      have ne389 : o ≠ re'381 := Nat.ne_of_lt (Nat.lt_of_lt_of_le hE.lt p381_1)
      have ne390 : rs ≠ re'381 := Nat.ne_of_lt (Nat.lt_of_lt_of_le hA1.lt p381_1)
      have ne391 : re ≠ re'381 := Nat.ne_of_lt (Nat.lt_of_lt_of_le hA2.lt p381_1)
      have kx392 := kx0.keep K381 (ninS hn4 nin0)
      have f393 := pr2.keep K381
      have f394 := hE.keep K381
      have f395 := hA1.keep K381 (ninS (Ne.symm hn1) nin0)
      have f396 := hA2.keep K381 (ninS (Ne.symm hn2) nin0)
      have z397 := Nat.le_trans Z0 K381.1
      refine own_Go.of (S' := (T381.setTop (mkF m 7 #[.val (.ref o)] [(.ref o)]))) (fun t kt => ?_) ?_
      · show Steps p.tables e below (T381.setTop (mkF m 6 #[.val (.ref o)] [])) _
        refine XS.aloadN X381.here hx rfl (own_hb hby d10_6) rfl rfl ?_
        exact kt
      obtain ⟨T398, X398, e398, st398⟩ := getF X381 hx hZ hown (host := "") (Or.inl (hw _ (List.mem_of_getElem? (i := 68) rfl))) Via.refl rfl p381_10 (g := (mkF m 7 #[.val (.ref o)] [(.ref o)])) rfl rfl (own_hb hby d10_7)
      refine own_Go.of (S' := (T398.setTop (mkF m 10 #[.val (.ref o)] [.null]))) st398 ?_
      refine own_Go.of (S' := (T398.setTop (mkF m 27 #[.val (.ref o)] [(.ref o), (.ref o)]))) (fun t kt => ?_) ?_
      · show Steps p.tables e below (T398.setTop (mkF m 10 #[.val (.ref o)] [.null])) _
        refine XS.ifnullYes X398.here hx rfl (pc0 := 10) (pc' := 25) rfl (own_hb hby d10_10) rfl (by decide) (by decide) ?_
        refine XS.aloadN X398.here hx rfl (own_hb hby d10_25) rfl rfl ?_
        refine XS.aloadN X398.here hx rfl (own_hb hby d10_26) rfl rfl ?_
        exact kt
      obtain ⟨T399, X399, e399, st399⟩ := getF X398 hx hZ hown (host := "") (Or.inl (hw _ (List.mem_of_getElem? (i := 68) rfl))) Via.refl e398 p381_10 (g := (mkF m 27 #[.val (.ref o)] [(.ref o), (.ref o)])) rfl rfl (own_hb hby d10_27)
      refine own_Go.of (S' := (T399.setTop (mkF m 30 #[.val (.ref o)] [.null, (.ref o)]))) st399 ?_
      refine own_Go.of (S' := (T399.setTop (mkF m 34 #[.val (.ref o)] [(.int (0 : Int32)), (.ref o)]))) (fun t kt => ?_) ?_
      · show Steps p.tables e below (T399.setTop (mkF m 30 #[.val (.ref o)] [.null, (.ref o)])) _
        refine XS.ifnonnullNo X399.here hx rfl (own_hb hby d10_30) rfl ?_
        refine XS.iconst X399.here hx rfl (own_hb hby d10_33) ?_
        exact kt
      obtain ⟨T400, h400, X400, e400, E400, A400, st400⟩ := own_newP X399 hx hZ (hw _ (List.mem_of_getElem? (i := 70) rfl)) e399 (g := (mkF m 34 #[.val (.ref o)] [(.int (0 : Int32)), (.ref o)])) rfl (own_hb hby d10_34) rfl (n := 0) (cap := 0) rfl (by decide) (by decide) (by decide) (by decide)
      obtain ⟨b400, g400⟩ : ∃ z, z = T381.heap.size := ⟨_, rfl⟩
      rw [← g400] at A400 st400
      have gx400 : n0 ≤ b400 := Nat.le_trans z397 (Nat.le_of_eq g400.symm)
      have ne401 : x ≠ b400 := Nat.ne_of_lt (Nat.lt_of_lt_of_le f393.lt (Nat.le_of_eq g400.symm))
      have ne402 : o ≠ b400 := Nat.ne_of_lt (Nat.lt_of_lt_of_le p381_3.lt (Nat.le_of_eq g400.symm))
      have ne403 : rs ≠ b400 := Nat.ne_of_lt (Nat.lt_of_lt_of_le f395.lt (Nat.le_of_eq g400.symm))
      have ne404 : re ≠ b400 := Nat.ne_of_lt (Nat.lt_of_lt_of_le f396.lt (Nat.le_of_eq g400.symm))
      have ne405 : rs'381 ≠ b400 := Nat.ne_of_lt (Nat.lt_of_lt_of_le p381_12.lt (Nat.le_of_eq g400.symm))
      have ne406 : re'381 ≠ b400 := Nat.ne_of_lt (Nat.lt_of_lt_of_le p381_13.lt (Nat.le_of_eq g400.symm))
      refine own_Go.of (S' := (T400.setTop (mkF m 36 #[.val (.ref o)] [(.ref b400), (.ref o)]))) st400 ?_
      have kx407 := kx392.ext E400
      have f408 := f393.ext E400
      have f409 := p381_3.ext E400
      have f410 := f395.ext E400
      have f411 := f396.ext E400
      have f412 := p381_4.ext E400
      have f413 := p381_5.ext E400
      have f414 := p381_6.ext E400
      have f415 := p381_7.ext E400
      have f416 := p381_8.ext E400
      have f417 := p381_9.ext E400
      have f418 := p381_10.ext E400
      have f419 := p381_11.ext E400
      have f420 := p381_12.ext E400
      have f421 := p381_13.ext E400
      have z422 := Nat.le_trans z397 E400.1
      have f423 : own_Ar Z h400 b400 .boolean 0 (own_I (fun _ => (0 : Int32))) := A400
      refine own_Go.of (S' := (T400.setTop (mkF m 44 #[.val (.ref o)] [(.ref o), (.ref b400), (.ref o)]))) (fun t kt => ?_) ?_
      · show Steps p.tables e below (T400.setTop (mkF m 36 #[.val (.ref o)] [(.ref b400), (.ref o)])) _
        refine XS.goto X400.here hx rfl (pc0 := 36) (pc' := 43) rfl (own_hb hby d10_36) (by decide) (by decide) ?_
        refine XS.aloadN X400.here hx rfl (own_hb hby d10_43) rfl rfl ?_
        exact kt
      obtain ⟨T424, X424, e424, st424⟩ := getF X400 hx hZ hown (host := "") (Or.inl (hw _ (List.mem_of_getElem? (i := 17) rfl))) Via.refl e400 f412 (g := (mkF m 44 #[.val (.ref o)] [(.ref o), (.ref b400), (.ref o)])) rfl rfl (own_hb hby d10_44)
      refine own_Go.of (S' := (T424.setTop (mkF m 47 #[.val (.ref o)] [(.ref rs'381), (.ref b400), (.ref o)]))) st424 ?_
      obtain ⟨cl425, Ar425, hln425⟩ := own_Ar.len f420
      refine own_Go.of (S' := (T424.setTop (mkF m 48 #[.val (.ref o)] [(.int (Int32.ofNat (2 * k))), (.ref b400), (.ref o)]))) (fun t kt => ?_) ?_
      · show Steps p.tables e below (T424.setTop (mkF m 47 #[.val (.ref o)] [(.ref rs'381), (.ref b400), (.ref o)])) _
        refine X424.arraylength hx (by rw [e424]; exact Ar425.1) (State.isArrayOf_alike hZ.alike Ar425.2.1) (g := (mkF m 47 #[.val (.ref o)] [(.ref rs'381), (.ref b400), (.ref o)])) rfl rfl (own_hb hby d10_47) _ ?_
        rw [hln425]
        exact kt
      obtain ⟨_, _, ⟨T426, L426, k426, n426⟩, -, X426, ⟨Lc426, hQ426, l426, y426, z426⟩, st426⟩ := Jvm.LawKit.callS X424 hx (y := (⟨"java/util/Arrays", "copyOf", "([ZI)[Z"⟩ : MethodName)) hown (mvT hZ (hw _ (List.mem_of_getElem? (i := 71) rfl))) (mvT hZ (hw _ (List.mem_of_getElem? (i := 72) rfl))) (mvT hZ (hw _ (List.mem_of_getElem? (i := 73) rfl))) (mvT hZ (hw _ (List.mem_of_getElem? (i := 74) rfl))) (by decide) (backOf (W := 1) (rm11 l Z a0 hw [] b400 (2 * k) 0 (fun _ => (0 : Int32)) h400 n0 z422 f423 (by omega) (by omega)) hZ (hw _ (List.mem_of_getElem? (i := 74) rfl)) (hw _ (List.mem_of_getElem? (i := 73) rfl)) (by decide) (by decide)) (g := (mkF m 48 #[.val (.ref o)] [(.int (Int32.ofNat (2 * k))), (.ref b400), (.ref o)])) rfl (by rw [hml]; rfl) (argsL := [(.ref b400), (.int (Int32.ofNat (2 * k)))]) (rest := [(.ref o)]) (lenOf pd_3 rfl) rfl (by show 2 * 0 + _ ≤ _; exact Nat.le_of_eq rfl) (own_hb hby d10_48) (fun _ _ => ⟨rfl, e424, (by decide : 3 + 1 ≤ _), (by decide : 16 + 8 ≤ _)⟩)
      dsimp only [Pt.U, Pt.locs, Pt.cells, Pt.slots] at X426 l426 y426 z426 st426 hQ426
      subst l426 y426 z426
      obtain ⟨b426, rfl, N426q, K426, p426_0, p426_1⟩ := hQ426
      have N426 := Fr.app N381 N426q
      refine own_Go.of (S' := (T426.setTop (mkF m 51 #[.val (.ref o)] [(.ref b426), (.ref o)]))) (fun t kt => st426 t kt) ?_
      have gx427 : n0 ≤ b426 := Nat.le_trans z422 p426_0
      have ne428 : x ≠ b426 := Nat.ne_of_lt (Nat.lt_of_lt_of_le f408.lt p426_0)
      have ne429 : o ≠ b426 := Nat.ne_of_lt (Nat.lt_of_lt_of_le f409.lt p426_0)
      have ne430 : rs ≠ b426 := Nat.ne_of_lt (Nat.lt_of_lt_of_le f410.lt p426_0)
      have ne431 : re ≠ b426 := Nat.ne_of_lt (Nat.lt_of_lt_of_le f411.lt p426_0)
      have ne432 : rs'381 ≠ b426 := Nat.ne_of_lt (Nat.lt_of_lt_of_le f420.lt p426_0)
      have ne433 : re'381 ≠ b426 := Nat.ne_of_lt (Nat.lt_of_lt_of_le f421.lt p426_0)
      have ne434 : b400 ≠ b426 := Nat.ne_of_lt (Nat.lt_of_lt_of_le f423.lt p426_0)
      have kx435 := kx407.keep K426 nin0
      have f436 := f408.keep K426
      have f437 := f409.keep K426
      have f438 := f410.keep K426 nin0
      have f439 := f411.keep K426 nin0
      have f440 := f412.keep K426 nin0
      have f441 := f413.keep K426 nin0
      have f442 := f414.keep K426 nin0
      have f443 := f415.keep K426 nin0
      have f444 := f416.keep K426 nin0
      have f445 := f417.keep K426 nin0
      have f446 := f418.keep K426 nin0
      have f447 := f419.keep K426 nin0
      have f448 := f420.keep K426 nin0
      have f449 := f421.keep K426 nin0
      have f450 := f423.keep K426 nin0
      have z451 := Nat.le_trans z422 K426.1
      obtain ⟨T452, h452, X452, e452, W452, st452⟩ := putF X426 hx hZ hown (host := "") (Or.inl (hw _ (List.mem_of_getElem? (i := 68) rfl))) Via.refl rfl f446 f437 (Or.inl (hw _ (List.mem_of_getElem? (i := 69) rfl))) (hw _ (List.mem_of_getElem? (i := 6) rfl)) (ty := (.array .boolean)) (by decide) rfl rfl (g := (mkF m 51 #[.val (.ref o)] [(.ref b426), (.ref o)])) rfl rfl (own_hb hby d10_51)
      refine own_Go.of (S' := (T452.setTop (mkF m 54 #[.val (.ref o)] []))) st452 ?_
      have kx453 := kx435.wr W452 hn4
      have f454 := f436.wr W452
      have f455 := f437.wr W452
      have f456 := f438.other W452 (Ne.symm hn1)
      have f457 := f439.other W452 (Ne.symm hn2)
      have f458 := f440.other W452 (Or.inr (slot_ne (Or.inl (hw _ (List.mem_of_getElem? (i := 18) rfl))) (Or.inl (hw _ (List.mem_of_getElem? (i := 69) rfl))) (by decide) (t := (.array .int)) (t' := (.array .boolean)) (by decide) (by decide)))
      have f459 := f441.other W452 (Or.inr (slot_ne (Or.inl (hw _ (List.mem_of_getElem? (i := 20) rfl))) (Or.inl (hw _ (List.mem_of_getElem? (i := 69) rfl))) (by decide) (t := (.array .int)) (t' := (.array .boolean)) (by decide) (by decide)))
      have f460 := f442.other W452 (Or.inr (slot_ne (Or.inl (hw _ (List.mem_of_getElem? (i := 57) rfl))) (Or.inl (hw _ (List.mem_of_getElem? (i := 69) rfl))) (by decide) (t := .int) (t' := (.array .boolean)) (by decide) (by decide)))
      have f461 := f443.other W452 (Or.inr (slot_ne (Or.inl (hw _ (List.mem_of_getElem? (i := 50) rfl))) (Or.inl (hw _ (List.mem_of_getElem? (i := 69) rfl))) (by decide) (t := .int) (t' := (.array .boolean)) (by decide) (by decide)))
      have f462 := f444.other W452 (Or.inr (slot_ne (Or.inl (hw _ (List.mem_of_getElem? (i := 40) rfl))) (Or.inl (hw _ (List.mem_of_getElem? (i := 69) rfl))) (by decide) (t := .boolean) (t' := (.array .boolean)) (by decide) (by decide)))
      have f463 := f445.other W452 (Or.inr (slot_ne (Or.inl (hw _ (List.mem_of_getElem? (i := 15) rfl))) (Or.inl (hw _ (List.mem_of_getElem? (i := 69) rfl))) (by decide) (t := (.array .byte)) (t' := (.array .boolean)) (by decide) (by decide)))
      have f464 := f447.other W452 (Or.inr (slot_ne (Or.inl (hw _ (List.mem_of_getElem? (i := 83) rfl))) (Or.inl (hw _ (List.mem_of_getElem? (i := 69) rfl))) (by decide) (t := .int) (t' := (.array .boolean)) (by decide) (by decide)))
      have f465 := f448.other W452 (Ne.symm ne384)
      have f466 := f449.other W452 (Ne.symm ne389)
      have f467 := f450.other W452 (Ne.symm ne402)
      have f468 := p426_1.other W452 (Ne.symm ne429)
      have z469 := Nat.le_trans z451 (Keep.of_wr W452).1
      have f470 : Fld Z h452 o "com/example/quayside/quayside/Row" "nulls" "[Z" (.ref b426) := f446.same W452
      have N452 := Fr.snoc X452 N426 hg1
      refine own_Go.of (S' := (T452.setTop (mkF m 55 #[.val (.ref o)] [(.ref o)]))) (fun t kt => ?_) ?_
      · show Steps p.tables e below (T452.setTop (mkF m 54 #[.val (.ref o)] [])) _
        refine XS.aloadN X452.here hx rfl (own_hb hby d10_54) rfl rfl ?_
        exact kt
      obtain ⟨T471, X471, e471, st471⟩ := getF X452 hx hZ hown (host := "") (Or.inl (hw _ (List.mem_of_getElem? (i := 68) rfl))) Via.refl e452 f470 (g := (mkF m 55 #[.val (.ref o)] [(.ref o)])) rfl rfl (own_hb hby d10_55)
      refine own_Go.of (S' := (T471.setTop (mkF m 58 #[.val (.ref o)] [(.ref b426)]))) st471 ?_
      refine own_Go.of (S' := (T471.setTop (mkF m 59 #[.val (.ref o)] [(.ref o), (.ref b426)]))) (fun t kt => ?_) ?_
      · show Steps p.tables e below (T471.setTop (mkF m 58 #[.val (.ref o)] [(.ref b426)])) _
        refine XS.aloadN X471.here hx rfl (own_hb hby d10_58) rfl rfl ?_
        exact kt
      obtain ⟨T472, X472, e472, st472⟩ := getF X471 hx hZ hown (host := "") (Or.inl (hw _ (List.mem_of_getElem? (i := 56) rfl))) Via.refl e471 f460 (g := (mkF m 59 #[.val (.ref o)] [(.ref o), (.ref b426)])) rfl rfl (own_hb hby d10_59)
      refine own_Go.of (S' := (T472.setTop (mkF m 62 #[.val (.ref o)] [(.int (Int32.ofNat (k + 1))), (.ref b426)]))) st472 ?_
      refine own_Go.of (S' := (T472.setTop (mkF m 65 #[.val (.ref o)] [(.int (1 : Int32)), (.int (Int32.ofNat k)), (.ref b426)]))) (fun t kt => ?_) ?_
      · show Steps p.tables e below (T472.setTop (mkF m 62 #[.val (.ref o)] [(.int (Int32.ofNat (k + 1))), (.ref b426)])) _
        refine XS.iconst X472.here hx rfl (own_hb hby d10_62) ?_
        refine XS.isub X472.here hx rfl (own_hb hby d10_63) rfl ?_
        show Steps p.tables e below (T472.setTop (mkF m 64 #[.val (.ref o)] [(.int ((Int32.ofNat (k + 1)) - (1 : Int32))), (.ref b426)])) _
        rw [show Int32.ofNat (k + 1) - (1 : Int32) = Int32.ofNat k from own_subN (a := k + 1) (b := 1) (by omega)]
        refine XS.iconst X472.here hx rfl (own_hb hby d10_64) ?_
        exact kt
      obtain ⟨cl473, Ar473, hin473, ub473⟩ := own_Ar.put (j := (Int32.ofNat k)) (k := k) f468 ⟨rfl, by omega⟩
      obtain ⟨T473, h473, X473, e473, W473, st473⟩ := stZ X472 hx hZ e472 Ar473 (j := (Int32.ofNat k)) hin473 (g := (mkF m 65 #[.val (.ref o)] [(.int (1 : Int32)), (.int (Int32.ofNat k)), (.ref b426)])) rfl rfl (own_hb hby d10_65)
      refine own_Go.of (S' := (T473.setTop (mkF m 66 #[.val (.ref o)] []))) st473 ?_
      have kx474 := kx453.wr W473 ne428
      have f475 := f454.wr W473
      have f476 := f455.wr W473
      have f477 := f456.other W473 ne430
      have f478 := f457.other W473 ne431
      have f479 := f458.other W473 (Or.inl ne429)
      have f480 := f459.other W473 (Or.inl ne429)
      have f481 := f460.other W473 (Or.inl ne429)
      have f482 := f461.other W473 (Or.inl ne429)
      have f483 := f462.other W473 (Or.inl ne429)
      have f484 := f463.other W473 (Or.inl ne429)
      have f485 := f470.other W473 (Or.inl ne429)
      have f486 := f464.other W473 (Or.inl ne429)
      have f487 := f465.other W473 ne432
      have f488 := f466.other W473 ne433
      have f489 := f467.other W473 ne434
      have z490 := Nat.le_trans z469 (Keep.of_wr W473).1
      have f491 : own_Ar Z h473 b426 .boolean (2 * k) (own_I (own_set (own_cpy (fun _ => (0 : Int32)) 0) k (nar .boolean (1 : Int32)))) := by rw [← own_upI]; exact ub473 (fits_nar_bool _) W473
      have N473 := Fr.snoc X473 N452 gx427
      refine own_Go.of (S' := (T473.setTop (mkF m 68 #[.val (.ref o)] [(.ref o), (.ref o)]))) (fun t kt => ?_) ?_
      · show Steps p.tables e below (T473.setTop (mkF m 66 #[.val (.ref o)] [])) _
        refine XS.aloadN X473.here hx rfl (own_hb hby d10_66) rfl rfl ?_
        refine XS.dup X473.here hx rfl (own_hb hby d10_67) rfl rfl ?_
        exact kt
      obtain ⟨T492, X492, e492, st492⟩ := getF X473 hx hZ hown (host := "") (Or.inl (hw _ (List.mem_of_getElem? (i := 82) rfl))) Via.refl e473 f486 (g := (mkF m 68 #[.val (.ref o)] [(.ref o), (.ref o)])) rfl rfl (own_hb hby d10_68)
      refine own_Go.of (S' := (T492.setTop (mkF m 71 #[.val (.ref o)] [(.int (0 : Int32)), (.ref o)]))) st492 ?_
      refine own_Go.of (S' := (T492.setTop (mkF m 73 #[.val (.ref o)] [(.int (Int32.ofNat 1)), (.ref o)]))) (fun t kt => ?_) ?_
      · show Steps p.tables e below (T492.setTop (mkF m 71 #[.val (.ref o)] [(.int (0 : Int32)), (.ref o)])) _
        refine XS.iconst X492.here hx rfl (own_hb hby d10_71) ?_
        refine XS.iadd X492.here hx rfl (own_hb hby d10_72) rfl ?_
        show Steps p.tables e below (T492.setTop (mkF m 73 #[.val (.ref o)] [(.int ((0 : Int32) + (1 : Int32))), (.ref o)])) _
        rw [show (0 : Int32) + (1 : Int32) = Int32.ofNat 1 from rfl]
        exact kt
      obtain ⟨T493, h493, X493, e493, W493, st493⟩ := putF X492 hx hZ hown (host := "") (Or.inl (hw _ (List.mem_of_getElem? (i := 82) rfl))) Via.refl e492 f486 f476 (Or.inl (hw _ (List.mem_of_getElem? (i := 83) rfl))) (hw _ (List.mem_of_getElem? (i := 6) rfl)) (ty := .int) (by decide) rfl rfl (g := (mkF m 73 #[.val (.ref o)] [(.int (Int32.ofNat 1)), (.ref o)])) rfl rfl (own_hb hby d10_73)
      refine own_Go.of (S' := (T493.setTop (mkF m 76 #[.val (.ref o)] []))) st493 ?_
      have kx494 := kx474.wr W493 hn4
      have f495 := f475.wr W493
      have f496 := f476.wr W493
      have f497 := f477.other W493 (Ne.symm hn1)
      have f498 := f478.other W493 (Ne.symm hn2)
      have f499 := f479.other W493 (Or.inr (slot_ne (Or.inl (hw _ (List.mem_of_getElem? (i := 18) rfl))) (Or.inl (hw _ (List.mem_of_getElem? (i := 83) rfl))) (by decide) (t := (.array .int)) (t' := .int) (by decide) (by decide)))
      have f500 := f480.other W493 (Or.inr (slot_ne (Or.inl (hw _ (List.mem_of_getElem? (i := 20) rfl))) (Or.inl (hw _ (List.mem_of_getElem? (i := 83) rfl))) (by decide) (t := (.array .int)) (t' := .int) (by decide) (by decide)))
      have f501 := f481.other W493 (Or.inr (slot_ne (Or.inl (hw _ (List.mem_of_getElem? (i := 57) rfl))) (Or.inl (hw _ (List.mem_of_getElem? (i := 83) rfl))) (by decide) (t := .int) (t' := .int) (by decide) (by decide)))
      have f502 := f482.other W493 (Or.inr (slot_ne (Or.inl (hw _ (List.mem_of_getElem? (i := 50) rfl))) (Or.inl (hw _ (List.mem_of_getElem? (i := 83) rfl))) (by decide) (t := .int) (t' := .int) (by decide) (by decide)))
      have f503 := f483.other W493 (Or.inr (slot_ne (Or.inl (hw _ (List.mem_of_getElem? (i := 40) rfl))) (Or.inl (hw _ (List.mem_of_getElem? (i := 83) rfl))) (by decide) (t := .boolean) (t' := .int) (by decide) (by decide)))
      have f504 := f484.other W493 (Or.inr (slot_ne (Or.inl (hw _ (List.mem_of_getElem? (i := 15) rfl))) (Or.inl (hw _ (List.mem_of_getElem? (i := 83) rfl))) (by decide) (t := (.array .byte)) (t' := .int) (by decide) (by decide)))
      have f505 := f485.other W493 (Or.inr (slot_ne (Or.inl (hw _ (List.mem_of_getElem? (i := 69) rfl))) (Or.inl (hw _ (List.mem_of_getElem? (i := 83) rfl))) (by decide) (t := (.array .boolean)) (t' := .int) (by decide) (by decide)))
      have f506 := f487.other W493 (Ne.symm ne384)
      have f507 := f488.other W493 (Ne.symm ne389)
      have f508 := f489.other W493 (Ne.symm ne402)
      have f509 := f491.other W493 (Ne.symm ne429)
      have z510 := Nat.le_trans z490 (Keep.of_wr W493).1
      have f511 : Fld Z h493 o "com/example/quayside/quayside/Row" "nullCount" "I" (.int (Int32.ofNat 1)) := f486.same W493
      have N493 := Fr.snoc X493 N473 hg1
      exact own_retV X493 hx hlk hret (own_hb hby d10_76) e493 ⟨(2 * k), rfl, N493, kx494, ⟨rs'381, re'381, (own_set (own_cpy gs cap) k (Int32.ofNat 0)), (own_set (own_cpy ge cap) k (0 : Int32)), (0 : Int32), (own_maxI r (0 : Int32)), f496, f499, f500, f501, f502, f503, f504, f506, f507, hg1, gx382, gx387, ne384, ne389, p381_2, hn4, ne383, ne388, (by omega), (by omega), ⟨own_dB (by omega) hge.1, own_Rch.add hge.2 (by decide)⟩, Or.inr ⟨b426, (2 * k), 1, (own_set (own_cpy (fun _ => (0 : Int32)) 0) k (nar .boolean (1 : Int32))), f505, f511, f509, gx427, ne429, ne432, ne433, ne428, (by omega), (by omega), (by omega)⟩⟩⟩ (by decide) (by decide)
  · skip
    by_cases hkk : k < cap
    · skip
      refine own_Go.of (S' := (T0.setTop (mkF m 3 #[.val (.ref o)] [(.int (0 : Int32)), (.int (0 : Int32)), (.ref o)]))) (fun t kt => ?_) ?_
      · show Steps p.tables e below (T0.setTop (mkF m 0 #[.val (.ref o)] [])) _
        refine XS.aloadN X0.here hx rfl (own_hb hby d10_0) rfl rfl ?_
        refine XS.iconst X0.here hx rfl (own_hb hby d10_1) ?_
        refine XS.iconst X0.here hx rfl (own_hb hby d10_2) ?_
        exact kt
      obtain ⟨cq512, kq512, q512a, q512b, q512c⟩ := isOf hZ e0 hE
      obtain ⟨_, _, ⟨T512, L512, k512, n512⟩, -, X512, ⟨Lc512, hQ512, l512, y512, z512⟩, st512⟩ := X0.virtualBack hx (y := (⟨"com/example/quayside/quayside/Row", "add", "(II)V"⟩ : MethodName)) (z := (⟨"com/example/quayside/quayside/Row", "add", "(II)V"⟩ : MethodName)) hown (mvT hZ (hw _ (List.mem_of_getElem? (i := 67) rfl))) (mvT hZ (hw _ (List.mem_of_getElem? (i := 52) rfl))) (notFace_of_selects (args := #[]) (mvT hZ (hw _ (List.mem_of_getElem? (i := 54) rfl)))) (mvT hZ (hw _ (List.mem_of_getElem? (i := 54) rfl))) (mvT hZ (hw _ (List.mem_of_getElem? (i := 53) rfl))) (by decide) (backOf (W := 0) (rm8s l Z a0 hw [] o 0 (0 : Int32) rs re k cap gs ge r tx bs (.ref rn) (Int32.ofNat c') h0 n0 Z0 hE hF1 hF2 hF3 hF4 hF5 hF6 hm1 hm2 hA1 hA2 hg1 hg2 hg3 hn1 hn2 hn3 (by decide) (by decide) (by omega) (by omega)) hZ (hw _ (List.mem_of_getElem? (i := 55) rfl)) (hw _ (List.mem_of_getElem? (i := 7) rfl)) (by decide) (by decide)) q512a q512c (g := (mkF m 3 #[.val (.ref o)] [(.int (0 : Int32)), (.int (0 : Int32)), (.ref o)])) rfl (by rw [hml]; rfl) (Steps.refl _) (argsL := [(.int (0 : Int32)), (.int (0 : Int32))]) (rest := []) (lenOf pd_2 rfl) rfl (by show 2 * 0 + _ ≤ _; exact Nat.le_of_eq rfl) (own_hb hby d10_3) (fun _ _ => ⟨rfl, e0, (by decide : 0 + 0 ≤ _), (by decide : 0 + 0 ≤ _)⟩)
      dsimp only [Pt.U, Pt.locs, Pt.cells, Pt.slots] at X512 l512 y512 z512 st512 hQ512
      subst l512 y512 z512
      obtain ⟨rfl, N512q, K512, p512_0, p512_1, p512_2, p512_3, p512_4, p512_5, p512_6, p512_7, p512_8, p512_9, p512_10⟩ := hQ512
      have N512 := Fr.app N0 N512q
      refine own_Go.of (S' := (T512.setTop (mkF m 6 #[.val (.ref o)] []))) (fun t kt => st512.trans kt) ?_
      have kx513 := kx0.keep K512 (ninS hn4 (ninS hn5 (ninS hn6 nin0)))
      have f514 := pr2.keep K512
      have f515 := hE.keep K512
      have f516 := hA3.keep K512 (ninS (Ne.symm hn7) (ninS (Ne.symm hn8) (ninS (Ne.symm hn9) nin0)))
      have z517 := Nat.le_trans Z0 K512.1
      refine own_Go.of (S' := (T512.setTop (mkF m 7 #[.val (.ref o)] [(.ref o)]))) (fun t kt => ?_) ?_
      · show Steps p.tables e below (T512.setTop (mkF m 6 #[.val (.ref o)] [])) _
        refine XS.aloadN X512.here hx rfl (own_hb hby d10_6) rfl rfl ?_
        exact kt
      obtain ⟨T518, X518, e518, st518⟩ := getF X512 hx hZ hown (host := "") (Or.inl (hw _ (List.mem_of_getElem? (i := 68) rfl))) Via.refl rfl p512_7 (g := (mkF m 7 #[.val (.ref o)] [(.ref o)])) rfl rfl (own_hb hby d10_7)
      refine own_Go.of (S' := (T518.setTop (mkF m 10 #[.val (.ref o)] [(.ref rn)]))) st518 ?_
      refine own_Go.of (S' := (T518.setTop (mkF m 14 #[.val (.ref o)] [(.ref o)]))) (fun t kt => ?_) ?_
      · show Steps p.tables e below (T518.setTop (mkF m 10 #[.val (.ref o)] [(.ref rn)])) _
        refine XS.ifnullNo X518.here hx rfl (own_hb hby d10_10) rfl ?_
        refine XS.aloadN X518.here hx rfl (own_hb hby d10_13) rfl rfl ?_
        exact kt
      obtain ⟨T519, X519, e519, st519⟩ := getF X518 hx hZ hown (host := "") (Or.inl (hw _ (List.mem_of_getElem? (i := 68) rfl))) Via.refl e518 p512_7 (g := (mkF m 14 #[.val (.ref o)] [(.ref o)])) rfl rfl (own_hb hby d10_14)
      refine own_Go.of (S' := (T519.setTop (mkF m 17 #[.val (.ref o)] [(.ref rn)]))) st519 ?_
      obtain ⟨cl520, Ar520, hln520⟩ := own_Ar.len f516
      refine own_Go.of (S' := (T519.setTop (mkF m 19 #[.val (.ref o)] [(.ref o), (.int (Int32.ofNat mn))]))) (fun t kt => ?_) ?_
      · show Steps p.tables e below (T519.setTop (mkF m 17 #[.val (.ref o)] [(.ref rn)])) _
        refine X519.arraylength hx (by rw [e519]; exact Ar520.1) (State.isArrayOf_alike hZ.alike Ar520.2.1) (g := (mkF m 17 #[.val (.ref o)] [(.ref rn)])) rfl rfl (own_hb hby d10_17) _ ?_
        rw [hln520]
        refine XS.aloadN X519.here hx rfl (own_hb hby d10_18) rfl rfl ?_
        exact kt
      obtain ⟨T521, X521, e521, st521⟩ := getF X519 hx hZ hown (host := "") (Or.inl (hw _ (List.mem_of_getElem? (i := 56) rfl))) Via.refl e519 p512_3 (g := (mkF m 19 #[.val (.ref o)] [(.ref o), (.int (Int32.ofNat mn))])) rfl rfl (own_hb hby d10_19)
      refine own_Go.of (S' := (T521.setTop (mkF m 22 #[.val (.ref o)] [(.int (Int32.ofNat (k + 1))), (.int (Int32.ofNat mn))]))) st521 ?_
      by_cases hc22_522 : mn < (k + 1)
      · skip
        refine own_Go.of (S' := (T521.setTop (mkF m 27 #[.val (.ref o)] [(.ref o), (.ref o)]))) (fun t kt => ?_) ?_
        · show Steps p.tables e below (T521.setTop (mkF m 22 #[.val (.ref o)] [(.int (Int32.ofNat (k + 1))), (.int (Int32.ofNat mn))])) _
          refine XS.icmpNo X521.here hx rfl (own_hb hby d10_22) rfl (tlt ((own_ltN (by omega) (by omega)).mpr hc22_522)).2.1 ?_
          refine XS.aloadN X521.here hx rfl (own_hb hby d10_25) rfl rfl ?_
          refine XS.aloadN X521.here hx rfl (own_hb hby d10_26) rfl rfl ?_
          exact kt
        obtain ⟨T523, X523, e523, st523⟩ := getF X521 hx hZ hown (host := "") (Or.inl (hw _ (List.mem_of_getElem? (i := 68) rfl))) Via.refl e521 p512_7 (g := (mkF m 27 #[.val (.ref o)] [(.ref o), (.ref o)])) rfl rfl (own_hb hby d10_27)
        refine own_Go.of (S' := (T523.setTop (mkF m 30 #[.val (.ref o)] [(.ref rn), (.ref o)]))) st523 ?_
        refine own_Go.of (S' := (T523.setTop (mkF m 40 #[.val (.ref o)] [(.ref o), (.ref o)]))) (fun t kt => ?_) ?_
        · show Steps p.tables e below (T523.setTop (mkF m 30 #[.val (.ref o)] [(.ref rn), (.ref o)])) _
          refine XS.ifnonnullYes X523.here hx rfl (pc0 := 30) (pc' := 39) rfl (own_hb hby d10_30) rfl (by decide) (by decide) ?_
          refine XS.aloadN X523.here hx rfl (own_hb hby d10_39) rfl rfl ?_
          exact kt
        obtain ⟨T524, X524, e524, st524⟩ := getF X523 hx hZ hown (host := "") (Or.inl (hw _ (List.mem_of_getElem? (i := 68) rfl))) Via.refl e523 p512_7 (g := (mkF m 40 #[.val (.ref o)] [(.ref o), (.ref o)])) rfl rfl (own_hb hby d10_40)
        refine own_Go.of (S' := (T524.setTop (mkF m 43 #[.val (.ref o)] [(.ref rn), (.ref o)]))) st524 ?_
        refine own_Go.of (S' := (T524.setTop (mkF m 44 #[.val (.ref o)] [(.ref o), (.ref rn), (.ref o)]))) (fun t kt => ?_) ?_
        · show Steps p.tables e below (T524.setTop (mkF m 43 #[.val (.ref o)] [(.ref rn), (.ref o)])) _
          refine XS.aloadN X524.here hx rfl (own_hb hby d10_43) rfl rfl ?_
          exact kt
        obtain ⟨T525, X525, e525, st525⟩ := getF X524 hx hZ hown (host := "") (Or.inl (hw _ (List.mem_of_getElem? (i := 17) rfl))) Via.refl e524 p512_1 (g := (mkF m 44 #[.val (.ref o)] [(.ref o), (.ref rn), (.ref o)])) rfl rfl (own_hb hby d10_44)
        refine own_Go.of (S' := (T525.setTop (mkF m 47 #[.val (.ref o)] [(.ref rs), (.ref rn), (.ref o)]))) st525 ?_
        obtain ⟨cl526, Ar526, hln526⟩ := own_Ar.len p512_9
        refine own_Go.of (S' := (T525.setTop (mkF m 48 #[.val (.ref o)] [(.int (Int32.ofNat cap)), (.ref rn), (.ref o)]))) (fun t kt => ?_) ?_
        · show Steps p.tables e below (T525.setTop (mkF m 47 #[.val (.ref o)] [(.ref rs), (.ref rn), (.ref o)])) _
          refine X525.arraylength hx (by rw [e525]; exact Ar526.1) (State.isArrayOf_alike hZ.alike Ar526.2.1) (g := (mkF m 47 #[.val (.ref o)] [(.ref rs), (.ref rn), (.ref o)])) rfl rfl (own_hb hby d10_47) _ ?_
          rw [hln526]
          exact kt
        obtain ⟨_, _, ⟨T527, L527, k527, n527⟩, -, X527, ⟨Lc527, hQ527, l527, y527, z527⟩, st527⟩ := Jvm.LawKit.callS X525 hx (y := (⟨"java/util/Arrays", "copyOf", "([ZI)[Z"⟩ : MethodName)) hown (mvT hZ (hw _ (List.mem_of_getElem? (i := 71) rfl))) (mvT hZ (hw _ (List.mem_of_getElem? (i := 72) rfl))) (mvT hZ (hw _ (List.mem_of_getElem? (i := 73) rfl))) (mvT hZ (hw _ (List.mem_of_getElem? (i := 74) rfl))) (by decide) (backOf (W := 1) (rm11 l Z a0 hw [] rn cap mn g T512.heap n0 z517 f516 (by omega) (by omega)) hZ (hw _ (List.mem_of_getElem? (i := 74) rfl)) (hw _ (List.mem_of_getElem? (i := 73) rfl)) (by decide) (by decide)) (g := (mkF m 48 #[.val (.ref o)] [(.int (Int32.ofNat cap)), (.ref rn), (.ref o)])) rfl (by rw [hml]; rfl) (argsL := [(.ref rn), (.int (Int32.ofNat cap))]) (rest := [(.ref o)]) (lenOf pd_3 rfl) rfl (by show 2 * 0 + _ ≤ _; exact Nat.le_of_eq rfl) (own_hb hby d10_48) (fun _ _ => ⟨rfl, e525, (by decide : 0 + 1 ≤ _), (by decide : 0 + 8 ≤ _)⟩)
        dsimp only [Pt.U, Pt.locs, Pt.cells, Pt.slots] at X527 l527 y527 z527 st527 hQ527
        subst l527 y527 z527
        obtain ⟨b527, rfl, N527q, K527, p527_0, p527_1⟩ := hQ527
        have N527 := Fr.app N512 N527q
        refine own_Go.of (S' := (T527.setTop (mkF m 51 #[.val (.ref o)] [(.ref b527), (.ref o)]))) (fun t kt => st527 t kt) ?_
        have gx528 : n0 ≤ b527 := Nat.le_trans z517 p527_0
        have ne529 : x ≠ b527 := Nat.ne_of_lt (Nat.lt_of_lt_of_le f514.lt p527_0)
        have ne530 : o ≠ b527 := Nat.ne_of_lt (Nat.lt_of_lt_of_le p512_0.lt p527_0)
        have ne531 : rn ≠ b527 := Nat.ne_of_lt (Nat.lt_of_lt_of_le f516.lt p527_0)
        have ne532 : rs ≠ b527 := Nat.ne_of_lt (Nat.lt_of_lt_of_le p512_9.lt p527_0)
        have ne533 : re ≠ b527 := Nat.ne_of_lt (Nat.lt_of_lt_of_le p512_10.lt p527_0)
        have kx534 := kx513.keep K527 nin0
        have f535 := f514.keep K527
        have f536 := p512_0.keep K527
        have f537 := f516.keep K527 nin0
        have f538 := p512_1.keep K527 nin0
        have f539 := p512_2.keep K527 nin0
        have f540 := p512_3.keep K527 nin0
        have f541 := p512_4.keep K527 nin0
        have f542 := p512_5.keep K527 nin0
        have f543 := p512_6.keep K527 nin0
        have f544 := p512_7.keep K527 nin0
        have f545 := p512_8.keep K527 nin0
        have f546 := p512_9.keep K527 nin0
        have f547 := p512_10.keep K527 nin0
        have z548 := Nat.le_trans z517 K527.1
        obtain ⟨T549, h549, X549, e549, W549, st549⟩ := putF X527 hx hZ hown (host := "") (Or.inl (hw _ (List.mem_of_getElem? (i := 68) rfl))) Via.refl rfl f544 f536 (Or.inl (hw _ (List.mem_of_getElem? (i := 69) rfl))) (hw _ (List.mem_of_getElem? (i := 6) rfl)) (ty := (.array .boolean)) (by decide) rfl rfl (g := (mkF m 51 #[.val (.ref o)] [(.ref b527), (.ref o)])) rfl rfl (own_hb hby d10_51)
        refine own_Go.of (S' := (T549.setTop (mkF m 54 #[.val (.ref o)] []))) st549 ?_
        have kx550 := kx534.wr W549 hn4
        have f551 := f535.wr W549
        have f552 := f536.wr W549
        have f553 := f537.other W549 (Ne.symm hn7)
        have f554 := f538.other W549 (Or.inr (slot_ne (Or.inl (hw _ (List.mem_of_getElem? (i := 18) rfl))) (Or.inl (hw _ (List.mem_of_getElem? (i := 69) rfl))) (by decide) (t := (.array .int)) (t' := (.array .boolean)) (by decide) (by decide)))
        have f555 := f539.other W549 (Or.inr (slot_ne (Or.inl (hw _ (List.mem_of_getElem? (i := 20) rfl))) (Or.inl (hw _ (List.mem_of_getElem? (i := 69) rfl))) (by decide) (t := (.array .int)) (t' := (.array .boolean)) (by decide) (by decide)))
        have f556 := f540.other W549 (Or.inr (slot_ne (Or.inl (hw _ (List.mem_of_getElem? (i := 57) rfl))) (Or.inl (hw _ (List.mem_of_getElem? (i := 69) rfl))) (by decide) (t := .int) (t' := (.array .boolean)) (by decide) (by decide)))
        have f557 := f541.other W549 (Or.inr (slot_ne (Or.inl (hw _ (List.mem_of_getElem? (i := 50) rfl))) (Or.inl (hw _ (List.mem_of_getElem? (i := 69) rfl))) (by decide) (t := .int) (t' := (.array .boolean)) (by decide) (by decide)))
        have f558 := f542.other W549 (Or.inr (slot_ne (Or.inl (hw _ (List.mem_of_getElem? (i := 40) rfl))) (Or.inl (hw _ (List.mem_of_getElem? (i := 69) rfl))) (by decide) (t := .boolean) (t' := (.array .boolean)) (by decide) (by decide)))
        have f559 := f543.other W549 (Or.inr (slot_ne (Or.inl (hw _ (List.mem_of_getElem? (i := 15) rfl))) (Or.inl (hw _ (List.mem_of_getElem? (i := 69) rfl))) (by decide) (t := (.array .byte)) (t' := (.array .boolean)) (by decide) (by decide)))
        have f560 := f545.other W549 (Or.inr (slot_ne (Or.inl (hw _ (List.mem_of_getElem? (i := 83) rfl))) (Or.inl (hw _ (List.mem_of_getElem? (i := 69) rfl))) (by decide) (t := .int) (t' := (.array .boolean)) (by decide) (by decide)))
        have f561 := f546.other W549 (Ne.symm hn1)
        have f562 := f547.other W549 (Ne.symm hn2)
        have f563 := p527_1.other W549 (Ne.symm ne530)
        have z564 := Nat.le_trans z548 (Keep.of_wr W549).1
        have f565 : Fld Z h549 o "com/example/quayside/quayside/Row" "nulls" "[Z" (.ref b527) := f544.same W549
        have N549 := Fr.snoc X549 N527 hg1
        refine own_Go.of (S' := (T549.setTop (mkF m 55 #[.val (.ref o)] [(.ref o)]))) (fun t kt => ?_) ?_
        · show Steps p.tables e below (T549.setTop (mkF m 54 #[.val (.ref o)] [])) _
          refine XS.aloadN X549.here hx rfl (own_hb hby d10_54) rfl rfl ?_
          exact kt
        obtain ⟨T566, X566, e566, st566⟩ := getF X549 hx hZ hown (host := "") (Or.inl (hw _ (List.mem_of_getElem? (i := 68) rfl))) Via.refl e549 f565 (g := (mkF m 55 #[.val (.ref o)] [(.ref o)])) rfl rfl (own_hb hby d10_55)
        refine own_Go.of (S' := (T566.setTop (mkF m 58 #[.val (.ref o)] [(.ref b527)]))) st566 ?_
        refine own_Go.of (S' := (T566.setTop (mkF m 59 #[.val (.ref o)] [(.ref o), (.ref b527)]))) (fun t kt => ?_) ?_
        · show Steps p.tables e below (T566.setTop (mkF m 58 #[.val (.ref o)] [(.ref b527)])) _
          refine XS.aloadN X566.here hx rfl (own_hb hby d10_58) rfl rfl ?_
          exact kt
        obtain ⟨T567, X567, e567, st567⟩ := getF X566 hx hZ hown (host := "") (Or.inl (hw _ (List.mem_of_getElem? (i := 56) rfl))) Via.refl e566 f556 (g := (mkF m 59 #[.val (.ref o)] [(.ref o), (.ref b527)])) rfl rfl (own_hb hby d10_59)
        refine own_Go.of (S' := (T567.setTop (mkF m 62 #[.val (.ref o)] [(.int (Int32.ofNat (k + 1))), (.ref b527)]))) st567 ?_
        refine own_Go.of (S' := (T567.setTop (mkF m 65 #[.val (.ref o)] [(.int (1 : Int32)), (.int (Int32.ofNat k)), (.ref b527)]))) (fun t kt => ?_) ?_
        · show Steps p.tables e below (T567.setTop (mkF m 62 #[.val (.ref o)] [(.int (Int32.ofNat (k + 1))), (.ref b527)])) _
          refine XS.iconst X567.here hx rfl (own_hb hby d10_62) ?_
          refine XS.isub X567.here hx rfl (own_hb hby d10_63) rfl ?_
          show Steps p.tables e below (T567.setTop (mkF m 64 #[.val (.ref o)] [(.int ((Int32.ofNat (k + 1)) - (1 : Int32))), (.ref b527)])) _
          rw [show Int32.ofNat (k + 1) - (1 : Int32) = Int32.ofNat k from own_subN (a := k + 1) (b := 1) (by omega)]
          refine XS.iconst X567.here hx rfl (own_hb hby d10_64) ?_
          exact kt
        obtain ⟨cl568, Ar568, hin568, ub568⟩ := own_Ar.put (j := (Int32.ofNat k)) (k := k) f563 ⟨rfl, by omega⟩
        obtain ⟨T568, h568, X568, e568, W568, st568⟩ := stZ X567 hx hZ e567 Ar568 (j := (Int32.ofNat k)) hin568 (g := (mkF m 65 #[.val (.ref o)] [(.int (1 : Int32)), (.int (Int32.ofNat k)), (.ref b527)])) rfl rfl (own_hb hby d10_65)
        refine own_Go.of (S' := (T568.setTop (mkF m 66 #[.val (.ref o)] []))) st568 ?_
        have kx569 := kx550.wr W568 ne529
        have f570 := f551.wr W568
        have f571 := f552.wr W568
        have f572 := f553.other W568 ne531
        have f573 := f554.other W568 (Or.inl ne530)
        have f574 := f555.other W568 (Or.inl ne530)
        have f575 := f556.other W568 (Or.inl ne530)
        have f576 := f557.other W568 (Or.inl ne530)
        have f577 := f558.other W568 (Or.inl ne530)
        have f578 := f559.other W568 (Or.inl ne530)
        have f579 := f565.other W568 (Or.inl ne530)
        have f580 := f560.other W568 (Or.inl ne530)
        have f581 := f561.other W568 ne532
        have f582 := f562.other W568 ne533
        have z583 := Nat.le_trans z564 (Keep.of_wr W568).1
        have f584 : own_Ar Z h568 b527 .boolean cap (own_I (own_set (own_cpy g mn) k (nar .boolean (1 : Int32)))) := by rw [← own_upI]; exact ub568 (fits_nar_bool _) W568
        have N568 := Fr.snoc X568 N549 gx528
        refine own_Go.of (S' := (T568.setTop (mkF m 68 #[.val (.ref o)] [(.ref o), (.ref o)]))) (fun t kt => ?_) ?_
        · show Steps p.tables e below (T568.setTop (mkF m 66 #[.val (.ref o)] [])) _
          refine XS.aloadN X568.here hx rfl (own_hb hby d10_66) rfl rfl ?_
          refine XS.dup X568.here hx rfl (own_hb hby d10_67) rfl rfl ?_
          exact kt
        obtain ⟨T585, X585, e585, st585⟩ := getF X568 hx hZ hown (host := "") (Or.inl (hw _ (List.mem_of_getElem? (i := 82) rfl))) Via.refl e568 f580 (g := (mkF m 68 #[.val (.ref o)] [(.ref o), (.ref o)])) rfl rfl (own_hb hby d10_68)
        refine own_Go.of (S' := (T585.setTop (mkF m 71 #[.val (.ref o)] [(.int (Int32.ofNat c')), (.ref o)]))) st585 ?_
        refine own_Go.of (S' := (T585.setTop (mkF m 73 #[.val (.ref o)] [(.int (Int32.ofNat (c' + 1))), (.ref o)]))) (fun t kt => ?_) ?_
        · show Steps p.tables e below (T585.setTop (mkF m 71 #[.val (.ref o)] [(.int (Int32.ofNat c')), (.ref o)])) _
          refine XS.iconst X585.here hx rfl (own_hb hby d10_71) ?_
          refine XS.iadd X585.here hx rfl (own_hb hby d10_72) rfl ?_
          show Steps p.tables e below (T585.setTop (mkF m 73 #[.val (.ref o)] [(.int ((Int32.ofNat c') + (1 : Int32))), (.ref o)])) _
          rw [show Int32.ofNat c' + (1 : Int32) = Int32.ofNat (c' + 1) from own_addN c' 1]
          exact kt
        obtain ⟨T586, h586, X586, e586, W586, st586⟩ := putF X585 hx hZ hown (host := "") (Or.inl (hw _ (List.mem_of_getElem? (i := 82) rfl))) Via.refl e585 f580 f571 (Or.inl (hw _ (List.mem_of_getElem? (i := 83) rfl))) (hw _ (List.mem_of_getElem? (i := 6) rfl)) (ty := .int) (by decide) rfl rfl (g := (mkF m 73 #[.val (.ref o)] [(.int (Int32.ofNat (c' + 1))), (.ref o)])) rfl rfl (own_hb hby d10_73)
        refine own_Go.of (S' := (T586.setTop (mkF m 76 #[.val (.ref o)] []))) st586 ?_
        have kx587 := kx569.wr W586 hn4
        have f588 := f570.wr W586
        have f589 := f571.wr W586
        have f590 := f572.other W586 (Ne.symm hn7)
        have f591 := f573.other W586 (Or.inr (slot_ne (Or.inl (hw _ (List.mem_of_getElem? (i := 18) rfl))) (Or.inl (hw _ (List.mem_of_getElem? (i := 83) rfl))) (by decide) (t := (.array .int)) (t' := .int) (by decide) (by decide)))
        have f592 := f574.other W586 (Or.inr (slot_ne (Or.inl (hw _ (List.mem_of_getElem? (i := 20) rfl))) (Or.inl (hw _ (List.mem_of_getElem? (i := 83) rfl))) (by decide) (t := (.array .int)) (t' := .int) (by decide) (by decide)))
        have f593 := f575.other W586 (Or.inr (slot_ne (Or.inl (hw _ (List.mem_of_getElem? (i := 57) rfl))) (Or.inl (hw _ (List.mem_of_getElem? (i := 83) rfl))) (by decide) (t := .int) (t' := .int) (by decide) (by decide)))
        have f594 := f576.other W586 (Or.inr (slot_ne (Or.inl (hw _ (List.mem_of_getElem? (i := 50) rfl))) (Or.inl (hw _ (List.mem_of_getElem? (i := 83) rfl))) (by decide) (t := .int) (t' := .int) (by decide) (by decide)))
        have f595 := f577.other W586 (Or.inr (slot_ne (Or.inl (hw _ (List.mem_of_getElem? (i := 40) rfl))) (Or.inl (hw _ (List.mem_of_getElem? (i := 83) rfl))) (by decide) (t := .boolean) (t' := .int) (by decide) (by decide)))
        have f596 := f578.other W586 (Or.inr (slot_ne (Or.inl (hw _ (List.mem_of_getElem? (i := 15) rfl))) (Or.inl (hw _ (List.mem_of_getElem? (i := 83) rfl))) (by decide) (t := (.array .byte)) (t' := .int) (by decide) (by decide)))
        have f597 := f579.other W586 (Or.inr (slot_ne (Or.inl (hw _ (List.mem_of_getElem? (i := 69) rfl))) (Or.inl (hw _ (List.mem_of_getElem? (i := 83) rfl))) (by decide) (t := (.array .boolean)) (t' := .int) (by decide) (by decide)))
        have f598 := f581.other W586 (Ne.symm hn1)
        have f599 := f582.other W586 (Ne.symm hn2)
        have f600 := f584.other W586 (Ne.symm ne530)
        have z601 := Nat.le_trans z583 (Keep.of_wr W586).1
        have f602 : Fld Z h586 o "com/example/quayside/quayside/Row" "nullCount" "I" (.int (Int32.ofNat (c' + 1))) := f580.same W586
        have N586 := Fr.snoc X586 N568 hg1
        exact own_retV X586 hx hlk hret (own_hb hby d10_76) e586 ⟨cap, rfl, N586, kx587, ⟨rs, re, (own_set gs k (Int32.ofNat 0)), (own_set ge k (0 : Int32)), (0 : Int32), (own_maxI r (0 : Int32)), f589, f591, f592, f593, f594, f595, f596, f598, f599, hg1, hg2, hg3, hn1, hn2, hn3, hn4, hn5, hn6, (by omega), (by omega), ⟨own_dA hge.1, own_Rch.add hge.2 (by decide)⟩, Or.inr ⟨b527, cap, (c' + 1), (own_set (own_cpy g mn) k (nar .boolean (1 : Int32))), f597, f602, f600, gx528, ne530, ne532, ne533, ne529, (by omega), (by omega), (by omega)⟩⟩⟩ (by decide) (by decide)
      · skip
        refine own_Go.of (S' := (T521.setTop (mkF m 55 #[.val (.ref o)] [(.ref o)]))) (fun t kt => ?_) ?_
        · show Steps p.tables e below (T521.setTop (mkF m 22 #[.val (.ref o)] [(.int (Int32.ofNat (k + 1))), (.int (Int32.ofNat mn))])) _
          refine XS.icmpYes X521.here hx rfl (pc0 := 22) (pc' := 54) rfl (own_hb hby d10_22) rfl (flt (fun q => hc22_522 ((own_ltN (by omega) (by omega)).mp q))).2.1 (by decide) (by decide) ?_
          refine XS.aloadN X521.here hx rfl (own_hb hby d10_54) rfl rfl ?_
          exact kt
        obtain ⟨T603, X603, e603, st603⟩ := getF X521 hx hZ hown (host := "") (Or.inl (hw _ (List.mem_of_getElem? (i := 68) rfl))) Via.refl e521 p512_7 (g := (mkF m 55 #[.val (.ref o)] [(.ref o)])) rfl rfl (own_hb hby d10_55)
        refine own_Go.of (S' := (T603.setTop (mkF m 58 #[.val (.ref o)] [(.ref rn)]))) st603 ?_
        refine own_Go.of (S' := (T603.setTop (mkF m 59 #[.val (.ref o)] [(.ref o), (.ref rn)]))) (fun t kt => ?_) ?_
        · show Steps p.tables e below (T603.setTop (mkF m 58 #[.val (.ref o)] [(.ref rn)])) _
          refine XS.aloadN X603.here hx rfl (own_hb hby d10_58) rfl rfl ?_
          exact kt
        obtain ⟨T604, X604, e604, st604⟩ := getF X603 hx hZ hown (host := "") (Or.inl (hw _ (List.mem_of_getElem? (i := 56) rfl))) Via.refl e603 p512_3 (g := (mkF m 59 #[.val (.ref o)] [(.ref o), (.ref rn)])) rfl rfl (own_hb hby d10_59)
        refine own_Go.of (S' := (T604.setTop (mkF m 62 #[.val (.ref o)] [(.int (Int32.ofNat (k + 1))), (.ref rn)]))) st604 ?_
        refine own_Go.of (S' := (T604.setTop (mkF m 65 #[.val (.ref o)] [(.int (1 : Int32)), (.int (Int32.ofNat k)), (.ref rn)]))) (fun t kt => ?_) ?_
        · show Steps p.tables e below (T604.setTop (mkF m 62 #[.val (.ref o)] [(.int (Int32.ofNat (k + 1))), (.ref rn)])) _
          refine XS.iconst X604.here hx rfl (own_hb hby d10_62) ?_
          refine XS.isub X604.here hx rfl (own_hb hby d10_63) rfl ?_
          show Steps p.tables e below (T604.setTop (mkF m 64 #[.val (.ref o)] [(.int ((Int32.ofNat (k + 1)) - (1 : Int32))), (.ref rn)])) _
          rw [show Int32.ofNat (k + 1) - (1 : Int32) = Int32.ofNat k from own_subN (a := k + 1) (b := 1) (by omega)]
          refine XS.iconst X604.here hx rfl (own_hb hby d10_64) ?_
          exact kt
        obtain ⟨cl605, Ar605, hin605, ub605⟩ := own_Ar.put (j := (Int32.ofNat k)) (k := k) f516 ⟨rfl, by omega⟩
        obtain ⟨T605, h605, X605, e605, W605, st605⟩ := stZ X604 hx hZ e604 Ar605 (j := (Int32.ofNat k)) hin605 (g := (mkF m 65 #[.val (.ref o)] [(.int (1 : Int32)), (.int (Int32.ofNat k)), (.ref rn)])) rfl rfl (own_hb hby d10_65)
        refine own_Go.of (S' := (T605.setTop (mkF m 66 #[.val (.ref o)] []))) st605 ?_
        have kx606 := kx513.wr W605 hn10
        have f607 := f514.wr W605
        have f608 := p512_0.wr W605
        have f609 := p512_1.other W605 (Or.inl hn7)
        have f610 := p512_2.other W605 (Or.inl hn7)
        have f611 := p512_3.other W605 (Or.inl hn7)
        have f612 := p512_4.other W605 (Or.inl hn7)
        have f613 := p512_5.other W605 (Or.inl hn7)
        have f614 := p512_6.other W605 (Or.inl hn7)
        have f615 := p512_7.other W605 (Or.inl hn7)
        have f616 := p512_8.other W605 (Or.inl hn7)
        have f617 := p512_9.other W605 hn8
        have f618 := p512_10.other W605 hn9
        have z619 := Nat.le_trans z517 (Keep.of_wr W605).1
        have f620 : own_Ar Z h605 rn .boolean mn (own_I (own_set g k (nar .boolean (1 : Int32)))) := by rw [← own_upI]; exact ub605 (fits_nar_bool _) W605
        have N605 := Fr.snoc X605 N512 hg4
        refine own_Go.of (S' := (T605.setTop (mkF m 68 #[.val (.ref o)] [(.ref o), (.ref o)]))) (fun t kt => ?_) ?_
        · show Steps p.tables e below (T605.setTop (mkF m 66 #[.val (.ref o)] [])) _
          refine XS.aloadN X605.here hx rfl (own_hb hby d10_66) rfl rfl ?_
          refine XS.dup X605.here hx rfl (own_hb hby d10_67) rfl rfl ?_
          exact kt
        obtain ⟨T621, X621, e621, st621⟩ := getF X605 hx hZ hown (host := "") (Or.inl (hw _ (List.mem_of_getElem? (i := 82) rfl))) Via.refl e605 f616 (g := (mkF m 68 #[.val (.ref o)] [(.ref o), (.ref o)])) rfl rfl (own_hb hby d10_68)
        refine own_Go.of (S' := (T621.setTop (mkF m 71 #[.val (.ref o)] [(.int (Int32.ofNat c')), (.ref o)]))) st621 ?_
        refine own_Go.of (S' := (T621.setTop (mkF m 73 #[.val (.ref o)] [(.int (Int32.ofNat (c' + 1))), (.ref o)]))) (fun t kt => ?_) ?_
        · show Steps p.tables e below (T621.setTop (mkF m 71 #[.val (.ref o)] [(.int (Int32.ofNat c')), (.ref o)])) _
          refine XS.iconst X621.here hx rfl (own_hb hby d10_71) ?_
          refine XS.iadd X621.here hx rfl (own_hb hby d10_72) rfl ?_
          show Steps p.tables e below (T621.setTop (mkF m 73 #[.val (.ref o)] [(.int ((Int32.ofNat c') + (1 : Int32))), (.ref o)])) _
          rw [show Int32.ofNat c' + (1 : Int32) = Int32.ofNat (c' + 1) from own_addN c' 1]
          exact kt
        obtain ⟨T622, h622, X622, e622, W622, st622⟩ := putF X621 hx hZ hown (host := "") (Or.inl (hw _ (List.mem_of_getElem? (i := 82) rfl))) Via.refl e621 f616 f608 (Or.inl (hw _ (List.mem_of_getElem? (i := 83) rfl))) (hw _ (List.mem_of_getElem? (i := 6) rfl)) (ty := .int) (by decide) rfl rfl (g := (mkF m 73 #[.val (.ref o)] [(.int (Int32.ofNat (c' + 1))), (.ref o)])) rfl rfl (own_hb hby d10_73)
        refine own_Go.of (S' := (T622.setTop (mkF m 76 #[.val (.ref o)] []))) st622 ?_
        have kx623 := kx606.wr W622 hn4
        have f624 := f607.wr W622
        have f625 := f608.wr W622
        have f626 := f620.other W622 (Ne.symm hn7)
        have f627 := f609.other W622 (Or.inr (slot_ne (Or.inl (hw _ (List.mem_of_getElem? (i := 18) rfl))) (Or.inl (hw _ (List.mem_of_getElem? (i := 83) rfl))) (by decide) (t := (.array .int)) (t' := .int) (by decide) (by decide)))
        have f628 := f610.other W622 (Or.inr (slot_ne (Or.inl (hw _ (List.mem_of_getElem? (i := 20) rfl))) (Or.inl (hw _ (List.mem_of_getElem? (i := 83) rfl))) (by decide) (t := (.array .int)) (t' := .int) (by decide) (by decide)))
        have f629 := f611.other W622 (Or.inr (slot_ne (Or.inl (hw _ (List.mem_of_getElem? (i := 57) rfl))) (Or.inl (hw _ (List.mem_of_getElem? (i := 83) rfl))) (by decide) (t := .int) (t' := .int) (by decide) (by decide)))
        have f630 := f612.other W622 (Or.inr (slot_ne (Or.inl (hw _ (List.mem_of_getElem? (i := 50) rfl))) (Or.inl (hw _ (List.mem_of_getElem? (i := 83) rfl))) (by decide) (t := .int) (t' := .int) (by decide) (by decide)))
        have f631 := f613.other W622 (Or.inr (slot_ne (Or.inl (hw _ (List.mem_of_getElem? (i := 40) rfl))) (Or.inl (hw _ (List.mem_of_getElem? (i := 83) rfl))) (by decide) (t := .boolean) (t' := .int) (by decide) (by decide)))
        have f632 := f614.other W622 (Or.inr (slot_ne (Or.inl (hw _ (List.mem_of_getElem? (i := 15) rfl))) (Or.inl (hw _ (List.mem_of_getElem? (i := 83) rfl))) (by decide) (t := (.array .byte)) (t' := .int) (by decide) (by decide)))
        have f633 := f615.other W622 (Or.inr (slot_ne (Or.inl (hw _ (List.mem_of_getElem? (i := 69) rfl))) (Or.inl (hw _ (List.mem_of_getElem? (i := 83) rfl))) (by decide) (t := (.array .boolean)) (t' := .int) (by decide) (by decide)))
        have f634 := f617.other W622 (Ne.symm hn1)
        have f635 := f618.other W622 (Ne.symm hn2)
        have z636 := Nat.le_trans z619 (Keep.of_wr W622).1
        have f637 : Fld Z h622 o "com/example/quayside/quayside/Row" "nullCount" "I" (.int (Int32.ofNat (c' + 1))) := f616.same W622
        have N622 := Fr.snoc X622 N605 hg1
        exact own_retV X622 hx hlk hret (own_hb hby d10_76) e622 ⟨cap, rfl, N622, kx623, ⟨rs, re, (own_set gs k (Int32.ofNat 0)), (own_set ge k (0 : Int32)), (0 : Int32), (own_maxI r (0 : Int32)), f625, f627, f628, f629, f630, f631, f632, f634, f635, hg1, hg2, hg3, hn1, hn2, hn3, hn4, hn5, hn6, (by omega), (by omega), ⟨own_dA hge.1, own_Rch.add hge.2 (by decide)⟩, Or.inr ⟨rn, mn, (c' + 1), (own_set g k (nar .boolean (1 : Int32))), f633, f637, f626, hg4, hn7, hn8, hn9, hn10, (by omega), (by omega), (by omega)⟩⟩⟩ (by decide) (by decide)
    · skip
      refine own_Go.of (S' := (T0.setTop (mkF m 3 #[.val (.ref o)] [(.int (0 : Int32)), (.int (0 : Int32)), (.ref o)]))) (fun t kt => ?_) ?_
      · show Steps p.tables e below (T0.setTop (mkF m 0 #[.val (.ref o)] [])) _
        refine XS.aloadN X0.here hx rfl (own_hb hby d10_0) rfl rfl ?_
        refine XS.iconst X0.here hx rfl (own_hb hby d10_1) ?_
        refine XS.iconst X0.here hx rfl (own_hb hby d10_2) ?_
        exact kt
      obtain ⟨cq638, kq638, q638a, q638b, q638c⟩ := isOf hZ e0 hE
      obtain ⟨_, _, ⟨T638, L638, k638, n638⟩, -, X638, ⟨Lc638, hQ638, l638, y638, z638⟩, st638⟩ := X0.virtualBack hx (y := (⟨"com/example/quayside/quayside/Row", "add", "(II)V"⟩ : MethodName)) (z := (⟨"com/example/quayside/quayside/Row", "add", "(II)V"⟩ : MethodName)) hown (mvT hZ (hw _ (List.mem_of_getElem? (i := 67) rfl))) (mvT hZ (hw _ (List.mem_of_getElem? (i := 52) rfl))) (notFace_of_selects (args := #[]) (mvT hZ (hw _ (List.mem_of_getElem? (i := 54) rfl)))) (mvT hZ (hw _ (List.mem_of_getElem? (i := 54) rfl))) (mvT hZ (hw _ (List.mem_of_getElem? (i := 53) rfl))) (by decide) (backOf (W := 0) (rm8g l Z a0 hw [] o 0 (0 : Int32) rs re k cap gs ge r tx bs (.ref rn) (Int32.ofNat c') h0 n0 Z0 hE hF1 hF2 hF3 hF4 hF5 hF6 hm1 hm2 hA1 hA2 hg1 hg2 hg3 hn1 hn2 hn3 (by decide) (by decide) (by omega) (by omega)) hZ (hw _ (List.mem_of_getElem? (i := 55) rfl)) (hw _ (List.mem_of_getElem? (i := 7) rfl)) (by decide) (by decide)) q638a q638c (g := (mkF m 3 #[.val (.ref o)] [(.int (0 : Int32)), (.int (0 : Int32)), (.ref o)])) rfl (by rw [hml]; rfl) (Steps.refl _) (argsL := [(.int (0 : Int32)), (.int (0 : Int32))]) (rest := []) (lenOf pd_2 rfl) rfl (by show 2 * 0 + _ ≤ _; exact Nat.le_of_eq rfl) (own_hb hby d10_3) (fun _ _ => ⟨rfl, e0, (by decide : 0 + 2 ≤ _), (by decide : 0 + 16 ≤ _)⟩)
      dsimp only [Pt.U, Pt.locs, Pt.cells, Pt.slots] at X638 l638 y638 z638 st638 hQ638
      subst l638 y638 z638
      obtain ⟨rs'638, re'638, rfl, N638q, K638, p638_0, p638_1, p638_2, p638_3, p638_4, p638_5, p638_6, p638_7, p638_8, p638_9, p638_10, p638_11, p638_12, p638_13⟩ := hQ638
      have N638 := Fr.app N0 N638q
      refine own_Go.of (S' := (T638.setTop (mkF m 6 #[.val (.ref o)] []))) (fun t kt => st638.trans kt) ?_
      have gx639 : n0 ≤ rs'638 := Nat.le_trans Z0 p638_0
      have ne640 : x ≠ rs'638 := Nat.ne_of_lt (Nat.lt_of_lt_of_le pr2.lt p638_0)
      have ne641 : o ≠ rs'638 := Nat.ne_of_lt (Nat.lt_of_lt_of_le hE.lt p638_0)
      have ne642 : rs ≠ rs'638 := Nat.ne_of_lt (Nat.lt_of_lt_of_le hA1.lt p638_0)
      have ne643 : re ≠ rs'638 := Nat.ne_of_lt (Nat.lt_of_lt_of_le hA2.lt p638_0)
      have ne644 : rn ≠ rs'638 := Nat.ne_of_lt (Nat.lt_of_lt_of_le hA3.lt p638_0)
      have gx645 : n0 ≤ re'638 := Nat.le_trans Z0 p638_1
      have ne646 : x ≠ re'638 := Nat.ne_of_lt (Nat.lt_of_lt_of_le pr2.lt p638_1)
      have ne647 : o ≠ re'638 := Nat.ne_of_lt (Nat.lt_of_lt_of_le hE.lt p638_1)
      have ne648 : rs ≠ re'638 := Nat.ne_of_lt (Nat.lt_of_lt_of_le hA1.lt p638_1)
      have ne649 : re ≠ re'638 := Nat.ne_of_lt (Nat.lt_of_lt_of_le hA2.lt p638_1)
      have ne650 : rn ≠ re'638 := Nat.ne_of_lt (Nat.lt_of_lt_of_le hA3.lt p638_1)
      have kx651 := kx0.keep K638 (ninS hn4 nin0)
      have f652 := pr2.keep K638
      have f653 := hE.keep K638
      have f654 := hA1.keep K638 (ninS (Ne.symm hn1) nin0)
      have f655 := hA2.keep K638 (ninS (Ne.symm hn2) nin0)
      have f656 := hA3.keep K638 (ninS (Ne.symm hn7) nin0)
      have z657 := Nat.le_trans Z0 K638.1
      refine own_Go.of (S' := (T638.setTop (mkF m 7 #[.val (.ref o)] [(.ref o)]))) (fun t kt => ?_) ?_
      · show Steps p.tables e below (T638.setTop (mkF m 6 #[.val (.ref o)] [])) _
        refine XS.aloadN X638.here hx rfl (own_hb hby d10_6) rfl rfl ?_
        exact kt
      obtain ⟨T658, X658, e658, st658⟩ := getF X638 hx hZ hown (host := "") (Or.inl (hw _ (List.mem_of_getElem? (i := 68) rfl))) Via.refl rfl p638_10 (g := (mkF m 7 #[.val (.ref o)] [(.ref o)])) rfl rfl (own_hb hby d10_7)
      refine own_Go.of (S' := (T658.setTop (mkF m 10 #[.val (.ref o)] [(.ref rn)]))) st658 ?_
      refine own_Go.of (S' := (T658.setTop (mkF m 14 #[.val (.ref o)] [(.ref o)]))) (fun t kt => ?_) ?_
      · show Steps p.tables e below (T658.setTop (mkF m 10 #[.val (.ref o)] [(.ref rn)])) _
        refine XS.ifnullNo X658.here hx rfl (own_hb hby d10_10) rfl ?_
        refine XS.aloadN X658.here hx rfl (own_hb hby d10_13) rfl rfl ?_
        exact kt
      obtain ⟨T659, X659, e659, st659⟩ := getF X658 hx hZ hown (host := "") (Or.inl (hw _ (List.mem_of_getElem? (i := 68) rfl))) Via.refl e658 p638_10 (g := (mkF m 14 #[.val (.ref o)] [(.ref o)])) rfl rfl (own_hb hby d10_14)
      refine own_Go.of (S' := (T659.setTop (mkF m 17 #[.val (.ref o)] [(.ref rn)]))) st659 ?_
      obtain ⟨cl660, Ar660, hln660⟩ := own_Ar.len f656
      refine own_Go.of (S' := (T659.setTop (mkF m 19 #[.val (.ref o)] [(.ref o), (.int (Int32.ofNat mn))]))) (fun t kt => ?_) ?_
      · show Steps p.tables e below (T659.setTop (mkF m 17 #[.val (.ref o)] [(.ref rn)])) _
        refine X659.arraylength hx (by rw [e659]; exact Ar660.1) (State.isArrayOf_alike hZ.alike Ar660.2.1) (g := (mkF m 17 #[.val (.ref o)] [(.ref rn)])) rfl rfl (own_hb hby d10_17) _ ?_
        rw [hln660]
        refine XS.aloadN X659.here hx rfl (own_hb hby d10_18) rfl rfl ?_
        exact kt
      obtain ⟨T661, X661, e661, st661⟩ := getF X659 hx hZ hown (host := "") (Or.inl (hw _ (List.mem_of_getElem? (i := 56) rfl))) Via.refl e659 p638_6 (g := (mkF m 19 #[.val (.ref o)] [(.ref o), (.int (Int32.ofNat mn))])) rfl rfl (own_hb hby d10_19)
      refine own_Go.of (S' := (T661.setTop (mkF m 22 #[.val (.ref o)] [(.int (Int32.ofNat (k + 1))), (.int (Int32.ofNat mn))]))) st661 ?_
      by_cases hc22_662 : mn < (k + 1)
      · skip
        refine own_Go.of (S' := (T661.setTop (mkF m 27 #[.val (.ref o)] [(.ref o), (.ref o)]))) (fun t kt => ?_) ?_
        · show Steps p.tables e below (T661.setTop (mkF m 22 #[.val (.ref o)] [(.int (Int32.ofNat (k + 1))), (.int (Int32.ofNat mn))])) _
          refine XS.icmpNo X661.here hx rfl (own_hb hby d10_22) rfl (tlt ((own_ltN (by omega) (by omega)).mpr hc22_662)).2.1 ?_
          refine XS.aloadN X661.here hx rfl (own_hb hby d10_25) rfl rfl ?_
          refine XS.aloadN X661.here hx rfl (own_hb hby d10_26) rfl rfl ?_
          exact kt
        obtain ⟨T663, X663, e663, st663⟩ := getF X661 hx hZ hown (host := "") (Or.inl (hw _ (List.mem_of_getElem? (i := 68) rfl))) Via.refl e661 p638_10 (g := (mkF m 27 #[.val (.ref o)] [(.ref o), (.ref o)])) rfl rfl (own_hb hby d10_27)
        refine own_Go.of (S' := (T663.setTop (mkF m 30 #[.val (.ref o)] [(.ref rn), (.ref o)]))) st663 ?_
        refine own_Go.of (S' := (T663.setTop (mkF m 40 #[.val (.ref o)] [(.ref o), (.ref o)]))) (fun t kt => ?_) ?_
        · show Steps p.tables e below (T663.setTop (mkF m 30 #[.val (.ref o)] [(.ref rn), (.ref o)])) _
          refine XS.ifnonnullYes X663.here hx rfl (pc0 := 30) (pc' := 39) rfl (own_hb hby d10_30) rfl (by decide) (by decide) ?_
          refine XS.aloadN X663.here hx rfl (own_hb hby d10_39) rfl rfl ?_
          exact kt
        obtain ⟨T664, X664, e664, st664⟩ := getF X663 hx hZ hown (host := "") (Or.inl (hw _ (List.mem_of_getElem? (i := 68) rfl))) Via.refl e663 p638_10 (g := (mkF m 40 #[.val (.ref o)] [(.ref o), (.ref o)])) rfl rfl (own_hb hby d10_40)
        refine own_Go.of (S' := (T664.setTop (mkF m 43 #[.val (.ref o)] [(.ref rn), (.ref o)]))) st664 ?_
        refine own_Go.of (S' := (T664.setTop (mkF m 44 #[.val (.ref o)] [(.ref o), (.ref rn), (.ref o)]))) (fun t kt => ?_) ?_
        · show Steps p.tables e below (T664.setTop (mkF m 43 #[.val (.ref o)] [(.ref rn), (.ref o)])) _
          refine XS.aloadN X664.here hx rfl (own_hb hby d10_43) rfl rfl ?_
          exact kt
        obtain ⟨T665, X665, e665, st665⟩ := getF X664 hx hZ hown (host := "") (Or.inl (hw _ (List.mem_of_getElem? (i := 17) rfl))) Via.refl e664 p638_4 (g := (mkF m 44 #[.val (.ref o)] [(.ref o), (.ref rn), (.ref o)])) rfl rfl (own_hb hby d10_44)
        refine own_Go.of (S' := (T665.setTop (mkF m 47 #[.val (.ref o)] [(.ref rs'638), (.ref rn), (.ref o)]))) st665 ?_
        obtain ⟨cl666, Ar666, hln666⟩ := own_Ar.len p638_12
        refine own_Go.of (S' := (T665.setTop (mkF m 48 #[.val (.ref o)] [(.int (Int32.ofNat (2 * k))), (.ref rn), (.ref o)]))) (fun t kt => ?_) ?_
        · show Steps p.tables e below (T665.setTop (mkF m 47 #[.val (.ref o)] [(.ref rs'638), (.ref rn), (.ref o)])) _
          refine X665.arraylength hx (by rw [e665]; exact Ar666.1) (State.isArrayOf_alike hZ.alike Ar666.2.1) (g := (mkF m 47 #[.val (.ref o)] [(.ref rs'638), (.ref rn), (.ref o)])) rfl rfl (own_hb hby d10_47) _ ?_
          rw [hln666]
          exact kt
        obtain ⟨_, _, ⟨T667, L667, k667, n667⟩, -, X667, ⟨Lc667, hQ667, l667, y667, z667⟩, st667⟩ := Jvm.LawKit.callS X665 hx (y := (⟨"java/util/Arrays", "copyOf", "([ZI)[Z"⟩ : MethodName)) hown (mvT hZ (hw _ (List.mem_of_getElem? (i := 71) rfl))) (mvT hZ (hw _ (List.mem_of_getElem? (i := 72) rfl))) (mvT hZ (hw _ (List.mem_of_getElem? (i := 73) rfl))) (mvT hZ (hw _ (List.mem_of_getElem? (i := 74) rfl))) (by decide) (backOf (W := 1) (rm11 l Z a0 hw [] rn (2 * k) mn g T638.heap n0 z657 f656 (by omega) (by omega)) hZ (hw _ (List.mem_of_getElem? (i := 74) rfl)) (hw _ (List.mem_of_getElem? (i := 73) rfl)) (by decide) (by decide)) (g := (mkF m 48 #[.val (.ref o)] [(.int (Int32.ofNat (2 * k))), (.ref rn), (.ref o)])) rfl (by rw [hml]; rfl) (argsL := [(.ref rn), (.int (Int32.ofNat (2 * k)))]) (rest := [(.ref o)]) (lenOf pd_3 rfl) rfl (by show 2 * 0 + _ ≤ _; exact Nat.le_of_eq rfl) (own_hb hby d10_48) (fun _ _ => ⟨rfl, e665, (by decide : 2 + 1 ≤ _), (by decide : 16 + 8 ≤ _)⟩)
        dsimp only [Pt.U, Pt.locs, Pt.cells, Pt.slots] at X667 l667 y667 z667 st667 hQ667
        subst l667 y667 z667
        obtain ⟨b667, rfl, N667q, K667, p667_0, p667_1⟩ := hQ667
        have N667 := Fr.app N638 N667q
        refine own_Go.of (S' := (T667.setTop (mkF m 51 #[.val (.ref o)] [(.ref b667), (.ref o)]))) (fun t kt => st667 t kt) ?_
        have gx668 : n0 ≤ b667 := Nat.le_trans z657 p667_0
        have ne669 : x ≠ b667 := Nat.ne_of_lt (Nat.lt_of_lt_of_le f652.lt p667_0)
        have ne670 : o ≠ b667 := Nat.ne_of_lt (Nat.lt_of_lt_of_le p638_3.lt p667_0)
        have ne671 : rs ≠ b667 := Nat.ne_of_lt (Nat.lt_of_lt_of_le f654.lt p667_0)
        have ne672 : re ≠ b667 := Nat.ne_of_lt (Nat.lt_of_lt_of_le f655.lt p667_0)
        have ne673 : rn ≠ b667 := Nat.ne_of_lt (Nat.lt_of_lt_of_le f656.lt p667_0)
        have ne674 : rs'638 ≠ b667 := Nat.ne_of_lt (Nat.lt_of_lt_of_le p638_12.lt p667_0)
        have ne675 : re'638 ≠ b667 := Nat.ne_of_lt (Nat.lt_of_lt_of_le p638_13.lt p667_0)
        have kx676 := kx651.keep K667 nin0
        have f677 := f652.keep K667
        have f678 := p638_3.keep K667
        have f679 := f654.keep K667 nin0
        have f680 := f655.keep K667 nin0
        have f681 := f656.keep K667 nin0
        have f682 := p638_4.keep K667 nin0
        have f683 := p638_5.keep K667 nin0
        have f684 := p638_6.keep K667 nin0
        have f685 := p638_7.keep K667 nin0
        have f686 := p638_8.keep K667 nin0
        have f687 := p638_9.keep K667 nin0
        have f688 := p638_10.keep K667 nin0
        have f689 := p638_11.keep K667 nin0
        have f690 := p638_12.keep K667 nin0
        have f691 := p638_13.keep K667 nin0
        have z692 := Nat.le_trans z657 K667.1
        obtain ⟨T693, h693, X693, e693, W693, st693⟩ := putF X667 hx hZ hown (host := "") (Or.inl (hw _ (List.mem_of_getElem? (i := 68) rfl))) Via.refl rfl f688 f678 (Or.inl (hw _ (List.mem_of_getElem? (i := 69) rfl))) (hw _ (List.mem_of_getElem? (i := 6) rfl)) (ty := (.array .boolean)) (by decide) rfl rfl (g := (mkF m 51 #[.val (.ref o)] [(.ref b667), (.ref o)])) rfl rfl (own_hb hby d10_51)
        refine own_Go.of (S' := (T693.setTop (mkF m 54 #[.val (.ref o)] []))) st693 ?_
        have kx694 := kx676.wr W693 hn4
        have f695 := f677.wr W693
        have f696 := f678.wr W693
        have f697 := f679.other W693 (Ne.symm hn1)
        have f698 := f680.other W693 (Ne.symm hn2)
        have f699 := f681.other W693 (Ne.symm hn7)
        have f700 := f682.other W693 (Or.inr (slot_ne (Or.inl (hw _ (List.mem_of_getElem? (i := 18) rfl))) (Or.inl (hw _ (List.mem_of_getElem? (i := 69) rfl))) (by decide) (t := (.array .int)) (t' := (.array .boolean)) (by decide) (by decide)))
        have f701 := f683.other W693 (Or.inr (slot_ne (Or.inl (hw _ (List.mem_of_getElem? (i := 20) rfl))) (Or.inl (hw _ (List.mem_of_getElem? (i := 69) rfl))) (by decide) (t := (.array .int)) (t' := (.array .boolean)) (by decide) (by decide)))
        have f702 := f684.other W693 (Or.inr (slot_ne (Or.inl (hw _ (List.mem_of_getElem? (i := 57) rfl))) (Or.inl (hw _ (List.mem_of_getElem? (i := 69) rfl))) (by decide) (t := .int) (t' := (.array .boolean)) (by decide) (by decide)))
        have f703 := f685.other W693 (Or.inr (slot_ne (Or.inl (hw _ (List.mem_of_getElem? (i := 50) rfl))) (Or.inl (hw _ (List.mem_of_getElem? (i := 69) rfl))) (by decide) (t := .int) (t' := (.array .boolean)) (by decide) (by decide)))
        have f704 := f686.other W693 (Or.inr (slot_ne (Or.inl (hw _ (List.mem_of_getElem? (i := 40) rfl))) (Or.inl (hw _ (List.mem_of_getElem? (i := 69) rfl))) (by decide) (t := .boolean) (t' := (.array .boolean)) (by decide) (by decide)))
        have f705 := f687.other W693 (Or.inr (slot_ne (Or.inl (hw _ (List.mem_of_getElem? (i := 15) rfl))) (Or.inl (hw _ (List.mem_of_getElem? (i := 69) rfl))) (by decide) (t := (.array .byte)) (t' := (.array .boolean)) (by decide) (by decide)))
        have f706 := f689.other W693 (Or.inr (slot_ne (Or.inl (hw _ (List.mem_of_getElem? (i := 83) rfl))) (Or.inl (hw _ (List.mem_of_getElem? (i := 69) rfl))) (by decide) (t := .int) (t' := (.array .boolean)) (by decide) (by decide)))
        have f707 := f690.other W693 (Ne.symm ne641)
        have f708 := f691.other W693 (Ne.symm ne647)
        have f709 := p667_1.other W693 (Ne.symm ne670)
        have z710 := Nat.le_trans z692 (Keep.of_wr W693).1
        have f711 : Fld Z h693 o "com/example/quayside/quayside/Row" "nulls" "[Z" (.ref b667) := f688.same W693
        have N693 := Fr.snoc X693 N667 hg1
        refine own_Go.of (S' := (T693.setTop (mkF m 55 #[.val (.ref o)] [(.ref o)]))) (fun t kt => ?_) ?_
        · show Steps p.tables e below (T693.setTop (mkF m 54 #[.val (.ref o)] [])) _
          refine XS.aloadN X693.here hx rfl (own_hb hby d10_54) rfl rfl ?_
          exact kt
        obtain ⟨T712, X712, e712, st712⟩ := getF X693 hx hZ hown (host := "") (Or.inl (hw _ (List.mem_of_getElem? (i := 68) rfl))) Via.refl e693 f711 (g := (mkF m 55 #[.val (.ref o)] [(.ref o)])) rfl rfl (own_hb hby d10_55)
        refine own_Go.of (S' := (T712.setTop (mkF m 58 #[.val (.ref o)] [(.ref b667)]))) st712 ?_
        refine own_Go.of (S' := (T712.setTop (mkF m 59 #[.val (.ref o)] [(.ref o), (.ref b667)]))) (fun t kt => ?_) ?_
        · show Steps p.tables e below (T712.setTop (mkF m 58 #[.val (.ref o)] [(.ref b667)])) _
          refine XS.aloadN X712.here hx rfl (own_hb hby d10_58) rfl rfl ?_
          exact kt
        obtain ⟨T713, X713, e713, st713⟩ := getF X712 hx hZ hown (host := "") (Or.inl (hw _ (List.mem_of_getElem? (i := 56) rfl))) Via.refl e712 f702 (g := (mkF m 59 #[.val (.ref o)] [(.ref o), (.ref b667)])) rfl rfl (own_hb hby d10_59)
        refine own_Go.of (S' := (T713.setTop (mkF m 62 #[.val (.ref o)] [(.int (Int32.ofNat (k + 1))), (.ref b667)]))) st713 ?_
        refine own_Go.of (S' := (T713.setTop (mkF m 65 #[.val (.ref o)] [(.int (1 : Int32)), (.int (Int32.ofNat k)), (.ref b667)]))) (fun t kt => ?_) ?_
        · show Steps p.tables e below (T713.setTop (mkF m 62 #[.val (.ref o)] [(.int (Int32.ofNat (k + 1))), (.ref b667)])) _
          refine XS.iconst X713.here hx rfl (own_hb hby d10_62) ?_
          refine XS.isub X713.here hx rfl (own_hb hby d10_63) rfl ?_
          show Steps p.tables e below (T713.setTop (mkF m 64 #[.val (.ref o)] [(.int ((Int32.ofNat (k + 1)) - (1 : Int32))), (.ref b667)])) _
          rw [show Int32.ofNat (k + 1) - (1 : Int32) = Int32.ofNat k from own_subN (a := k + 1) (b := 1) (by omega)]
          refine XS.iconst X713.here hx rfl (own_hb hby d10_64) ?_
          exact kt
        obtain ⟨cl714, Ar714, hin714, ub714⟩ := own_Ar.put (j := (Int32.ofNat k)) (k := k) f709 ⟨rfl, by omega⟩
        obtain ⟨T714, h714, X714, e714, W714, st714⟩ := stZ X713 hx hZ e713 Ar714 (j := (Int32.ofNat k)) hin714 (g := (mkF m 65 #[.val (.ref o)] [(.int (1 : Int32)), (.int (Int32.ofNat k)), (.ref b667)])) rfl rfl (own_hb hby d10_65)
        refine own_Go.of (S' := (T714.setTop (mkF m 66 #[.val (.ref o)] []))) st714 ?_
        have kx715 := kx694.wr W714 ne669
        have f716 := f695.wr W714
        have f717 := f696.wr W714
        have f718 := f697.other W714 ne671
        have f719 := f698.other W714 ne672
        have f720 := f699.other W714 ne673
        have f721 := f700.other W714 (Or.inl ne670)
        have f722 := f701.other W714 (Or.inl ne670)
        have f723 := f702.other W714 (Or.inl ne670)
        have f724 := f703.other W714 (Or.inl ne670)
        have f725 := f704.other W714 (Or.inl ne670)
        have f726 := f705.other W714 (Or.inl ne670)
        have f727 := f711.other W714 (Or.inl ne670)
        have f728 := f706.other W714 (Or.inl ne670)
        have f729 := f707.other W714 ne674
        have f730 := f708.other W714 ne675
        have z731 := Nat.le_trans z710 (Keep.of_wr W714).1
        have f732 : own_Ar Z h714 b667 .boolean (2 * k) (own_I (own_set (own_cpy g mn) k (nar .boolean (1 : Int32)))) := by rw [← own_upI]; exact ub714 (fits_nar_bool _) W714
        have N714 := Fr.snoc X714 N693 gx668
        refine own_Go.of (S' := (T714.setTop (mkF m 68 #[.val (.ref o)] [(.ref o), (.ref o)]))) (fun t kt => ?_) ?_
        · show Steps p.tables e below (T714.setTop (mkF m 66 #[.val (.ref o)] [])) _
          refine XS.aloadN X714.here hx rfl (own_hb hby d10_66) rfl rfl ?_
          refine XS.dup X714.here hx rfl (own_hb hby d10_67) rfl rfl ?_
          exact kt
        obtain ⟨T733, X733, e733, st733⟩ := getF X714 hx hZ hown (host := "") (Or.inl (hw _ (List.mem_of_getElem? (i := 82) rfl))) Via.refl e714 f728 (g := (mkF m 68 #[.val (.ref o)] [(.ref o), (.ref o)])) rfl rfl (own_hb hby d10_68)
        refine own_Go.of (S' := (T733.setTop (mkF m 71 #[.val (.ref o)] [(.int (Int32.ofNat c')), (.ref o)]))) st733 ?_
        refine own_Go.of (S' := (T733.setTop (mkF m 73 #[.val (.ref o)] [(.int (Int32.ofNat (c' + 1))), (.ref o)]))) (fun t kt => ?_) ?_
        · show Steps p.tables e below (T733.setTop (mkF m 71 #[.val (.ref o)] [(.int (Int32.ofNat c')), (.ref o)])) _
          refine XS.iconst X733.here hx rfl (own_hb hby d10_71) ?_
          refine XS.iadd X733.here hx rfl (own_hb hby d10_72) rfl ?_
          show Steps p.tables e below (T733.setTop (mkF m 73 #[.val (.ref o)] [(.int ((Int32.ofNat c') + (1 : Int32))), (.ref o)])) _
          rw [show Int32.ofNat c' + (1 : Int32) = Int32.ofNat (c' + 1) from own_addN c' 1]
          exact kt
        obtain ⟨T734, h734, X734, e734, W734, st734⟩ := putF X733 hx hZ hown (host := "") (Or.inl (hw _ (List.mem_of_getElem? (i := 82) rfl))) Via.refl e733 f728 f717 (Or.inl (hw _ (List.mem_of_getElem? (i := 83) rfl))) (hw _ (List.mem_of_getElem? (i := 6) rfl)) (ty := .int) (by decide) rfl rfl (g := (mkF m 73 #[.val (.ref o)] [(.int (Int32.ofNat (c' + 1))), (.ref o)])) rfl rfl (own_hb hby d10_73)
        refine own_Go.of (S' := (T734.setTop (mkF m 76 #[.val (.ref o)] []))) st734 ?_
        have kx735 := kx715.wr W734 hn4
        have f736 := f716.wr W734
        have f737 := f717.wr W734
        have f738 := f718.other W734 (Ne.symm hn1)
        have f739 := f719.other W734 (Ne.symm hn2)
        have f740 := f720.other W734 (Ne.symm hn7)
        have f741 := f721.other W734 (Or.inr (slot_ne (Or.inl (hw _ (List.mem_of_getElem? (i := 18) rfl))) (Or.inl (hw _ (List.mem_of_getElem? (i := 83) rfl))) (by decide) (t := (.array .int)) (t' := .int) (by decide) (by decide)))
        have f742 := f722.other W734 (Or.inr (slot_ne (Or.inl (hw _ (List.mem_of_getElem? (i := 20) rfl))) (Or.inl (hw _ (List.mem_of_getElem? (i := 83) rfl))) (by decide) (t := (.array .int)) (t' := .int) (by decide) (by decide)))
        have f743 := f723.other W734 (Or.inr (slot_ne (Or.inl (hw _ (List.mem_of_getElem? (i := 57) rfl))) (Or.inl (hw _ (List.mem_of_getElem? (i := 83) rfl))) (by decide) (t := .int) (t' := .int) (by decide) (by decide)))
        have f744 := f724.other W734 (Or.inr (slot_ne (Or.inl (hw _ (List.mem_of_getElem? (i := 50) rfl))) (Or.inl (hw _ (List.mem_of_getElem? (i := 83) rfl))) (by decide) (t := .int) (t' := .int) (by decide) (by decide)))
        have f745 := f725.other W734 (Or.inr (slot_ne (Or.inl (hw _ (List.mem_of_getElem? (i := 40) rfl))) (Or.inl (hw _ (List.mem_of_getElem? (i := 83) rfl))) (by decide) (t := .boolean) (t' := .int) (by decide) (by decide)))
        have f746 := f726.other W734 (Or.inr (slot_ne (Or.inl (hw _ (List.mem_of_getElem? (i := 15) rfl))) (Or.inl (hw _ (List.mem_of_getElem? (i := 83) rfl))) (by decide) (t := (.array .byte)) (t' := .int) (by decide) (by decide)))
        have f747 := f727.other W734 (Or.inr (slot_ne (Or.inl (hw _ (List.mem_of_getElem? (i := 69) rfl))) (Or.inl (hw _ (List.mem_of_getElem? (i := 83) rfl))) (by decide) (t := (.array .boolean)) (t' := .int) (by decide) (by decide)))
        have f748 := f729.other W734 (Ne.symm ne641)
        have f749 := f730.other W734 (Ne.symm ne647)
        have f750 := f732.other W734 (Ne.symm ne670)
        have z751 := Nat.le_trans z731 (Keep.of_wr W734).1
        have f752 : Fld Z h734 o "com/example/quayside/quayside/Row" "nullCount" "I" (.int (Int32.ofNat (c' + 1))) := f728.same W734
        have N734 := Fr.snoc X734 N714 hg1
        exact own_retV X734 hx hlk hret (own_hb hby d10_76) e734 ⟨(2 * k), rfl, N734, kx735, ⟨rs'638, re'638, (own_set (own_cpy gs cap) k (Int32.ofNat 0)), (own_set (own_cpy ge cap) k (0 : Int32)), (0 : Int32), (own_maxI r (0 : Int32)), f737, f741, f742, f743, f744, f745, f746, f748, f749, hg1, gx639, gx645, ne641, ne647, p638_2, hn4, ne640, ne646, (by omega), (by omega), ⟨own_dB (by omega) hge.1, own_Rch.add hge.2 (by decide)⟩, Or.inr ⟨b667, (2 * k), (c' + 1), (own_set (own_cpy g mn) k (nar .boolean (1 : Int32))), f747, f752, f750, gx668, ne670, ne674, ne675, ne669, (by omega), (by omega), (by omega)⟩⟩⟩ (by decide) (by decide)
      · skip
        refine own_Go.of (S' := (T661.setTop (mkF m 55 #[.val (.ref o)] [(.ref o)]))) (fun t kt => ?_) ?_
        · show Steps p.tables e below (T661.setTop (mkF m 22 #[.val (.ref o)] [(.int (Int32.ofNat (k + 1))), (.int (Int32.ofNat mn))])) _
          refine XS.icmpYes X661.here hx rfl (pc0 := 22) (pc' := 54) rfl (own_hb hby d10_22) rfl (flt (fun q => hc22_662 ((own_ltN (by omega) (by omega)).mp q))).2.1 (by decide) (by decide) ?_
          refine XS.aloadN X661.here hx rfl (own_hb hby d10_54) rfl rfl ?_
          exact kt
        obtain ⟨T753, X753, e753, st753⟩ := getF X661 hx hZ hown (host := "") (Or.inl (hw _ (List.mem_of_getElem? (i := 68) rfl))) Via.refl e661 p638_10 (g := (mkF m 55 #[.val (.ref o)] [(.ref o)])) rfl rfl (own_hb hby d10_55)
        refine own_Go.of (S' := (T753.setTop (mkF m 58 #[.val (.ref o)] [(.ref rn)]))) st753 ?_
        refine own_Go.of (S' := (T753.setTop (mkF m 59 #[.val (.ref o)] [(.ref o), (.ref rn)]))) (fun t kt => ?_) ?_
        · show Steps p.tables e below (T753.setTop (mkF m 58 #[.val (.ref o)] [(.ref rn)])) _
          refine XS.aloadN X753.here hx rfl (own_hb hby d10_58) rfl rfl ?_
          exact kt
        obtain ⟨T754, X754, e754, st754⟩ := getF X753 hx hZ hown (host := "") (Or.inl (hw _ (List.mem_of_getElem? (i := 56) rfl))) Via.refl e753 p638_6 (g := (mkF m 59 #[.val (.ref o)] [(.ref o), (.ref rn)])) rfl rfl (own_hb hby d10_59)
        refine own_Go.of (S' := (T754.setTop (mkF m 62 #[.val (.ref o)] [(.int (Int32.ofNat (k + 1))), (.ref rn)]))) st754 ?_
        refine own_Go.of (S' := (T754.setTop (mkF m 65 #[.val (.ref o)] [(.int (1 : Int32)), (.int (Int32.ofNat k)), (.ref rn)]))) (fun t kt => ?_) ?_
        · show Steps p.tables e below (T754.setTop (mkF m 62 #[.val (.ref o)] [(.int (Int32.ofNat (k + 1))), (.ref rn)])) _
          refine XS.iconst X754.here hx rfl (own_hb hby d10_62) ?_
          refine XS.isub X754.here hx rfl (own_hb hby d10_63) rfl ?_
          show Steps p.tables e below (T754.setTop (mkF m 64 #[.val (.ref o)] [(.int ((Int32.ofNat (k + 1)) - (1 : Int32))), (.ref rn)])) _
          rw [show Int32.ofNat (k + 1) - (1 : Int32) = Int32.ofNat k from own_subN (a := k + 1) (b := 1) (by omega)]
          refine XS.iconst X754.here hx rfl (own_hb hby d10_64) ?_
          exact kt
        obtain ⟨cl755, Ar755, hin755, ub755⟩ := own_Ar.put (j := (Int32.ofNat k)) (k := k) f656 ⟨rfl, by omega⟩
        obtain ⟨T755, h755, X755, e755, W755, st755⟩ := stZ X754 hx hZ e754 Ar755 (j := (Int32.ofNat k)) hin755 (g := (mkF m 65 #[.val (.ref o)] [(.int (1 : Int32)), (.int (Int32.ofNat k)), (.ref rn)])) rfl rfl (own_hb hby d10_65)
        refine own_Go.of (S' := (T755.setTop (mkF m 66 #[.val (.ref o)] []))) st755 ?_
        have kx756 := kx651.wr W755 hn10
        have f757 := f652.wr W755
        have f758 := p638_3.wr W755
        have f759 := f654.other W755 hn8
        have f760 := f655.other W755 hn9
        have f761 := p638_4.other W755 (Or.inl hn7)
        have f762 := p638_5.other W755 (Or.inl hn7)
        have f763 := p638_6.other W755 (Or.inl hn7)
        have f764 := p638_7.other W755 (Or.inl hn7)
        have f765 := p638_8.other W755 (Or.inl hn7)
        have f766 := p638_9.other W755 (Or.inl hn7)
        have f767 := p638_10.other W755 (Or.inl hn7)
        have f768 := p638_11.other W755 (Or.inl hn7)
        have f769 := p638_12.other W755 (Ne.symm ne644)
        have f770 := p638_13.other W755 (Ne.symm ne650)
        have z771 := Nat.le_trans z657 (Keep.of_wr W755).1
        have f772 : own_Ar Z h755 rn .boolean mn (own_I (own_set g k (nar .boolean (1 : Int32)))) := by rw [← own_upI]; exact ub755 (fits_nar_bool _) W755
        have N755 := Fr.snoc X755 N638 hg4
        refine own_Go.of (S' := (T755.setTop (mkF m 68 #[.val (.ref o)] [(.ref o), (.ref o)]))) (fun t kt => ?_) ?_
        · show Steps p.tables e below (T755.setTop (mkF m 66 #[.val (.ref o)] [])) _
          refine XS.aloadN X755.here hx rfl (own_hb hby d10_66) rfl rfl ?_
          refine XS.dup X755.here hx rfl (own_hb hby d10_67) rfl rfl ?_
          exact kt
        obtain ⟨T773, X773, e773, st773⟩ := getF X755 hx hZ hown (host := "") (Or.inl (hw _ (List.mem_of_getElem? (i := 82) rfl))) Via.refl e755 f768 (g := (mkF m 68 #[.val (.ref o)] [(.ref o), (.ref o)])) rfl rfl (own_hb hby d10_68)
        refine own_Go.of (S' := (T773.setTop (mkF m 71 #[.val (.ref o)] [(.int (Int32.ofNat c')), (.ref o)]))) st773 ?_
        refine own_Go.of (S' := (T773.setTop (mkF m 73 #[.val (.ref o)] [(.int (Int32.ofNat (c' + 1))), (.ref o)]))) (fun t kt => ?_) ?_
        · show Steps p.tables e below (T773.setTop (mkF m 71 #[.val (.ref o)] [(.int (Int32.ofNat c')), (.ref o)])) _
          refine XS.iconst X773.here hx rfl (own_hb hby d10_71) ?_
          refine XS.iadd X773.here hx rfl (own_hb hby d10_72) rfl ?_
          show Steps p.tables e below (T773.setTop (mkF m 73 #[.val (.ref o)] [(.int ((Int32.ofNat c') + (1 : Int32))), (.ref o)])) _
          rw [show Int32.ofNat c' + (1 : Int32) = Int32.ofNat (c' + 1) from own_addN c' 1]
          exact kt
        obtain ⟨T774, h774, X774, e774, W774, st774⟩ := putF X773 hx hZ hown (host := "") (Or.inl (hw _ (List.mem_of_getElem? (i := 82) rfl))) Via.refl e773 f768 f758 (Or.inl (hw _ (List.mem_of_getElem? (i := 83) rfl))) (hw _ (List.mem_of_getElem? (i := 6) rfl)) (ty := .int) (by decide) rfl rfl (g := (mkF m 73 #[.val (.ref o)] [(.int (Int32.ofNat (c' + 1))), (.ref o)])) rfl rfl (own_hb hby d10_73)
        refine own_Go.of (S' := (T774.setTop (mkF m 76 #[.val (.ref o)] []))) st774 ?_
        have kx775 := kx756.wr W774 hn4
        have f776 := f757.wr W774
        have f777 := f758.wr W774
        have f778 := f759.other W774 (Ne.symm hn1)
        have f779 := f760.other W774 (Ne.symm hn2)
        have f780 := f772.other W774 (Ne.symm hn7)
        have f781 := f761.other W774 (Or.inr (slot_ne (Or.inl (hw _ (List.mem_of_getElem? (i := 18) rfl))) (Or.inl (hw _ (List.mem_of_getElem? (i := 83) rfl))) (by decide) (t := (.array .int)) (t' := .int) (by decide) (by decide)))
        have f782 := f762.other W774 (Or.inr (slot_ne (Or.inl (hw _ (List.mem_of_getElem? (i := 20) rfl))) (Or.inl (hw _ (List.mem_of_getElem? (i := 83) rfl))) (by decide) (t := (.array .int)) (t' := .int) (by decide) (by decide)))
        have f783 := f763.other W774 (Or.inr (slot_ne (Or.inl (hw _ (List.mem_of_getElem? (i := 57) rfl))) (Or.inl (hw _ (List.mem_of_getElem? (i := 83) rfl))) (by decide) (t := .int) (t' := .int) (by decide) (by decide)))
        have f784 := f764.other W774 (Or.inr (slot_ne (Or.inl (hw _ (List.mem_of_getElem? (i := 50) rfl))) (Or.inl (hw _ (List.mem_of_getElem? (i := 83) rfl))) (by decide) (t := .int) (t' := .int) (by decide) (by decide)))
        have f785 := f765.other W774 (Or.inr (slot_ne (Or.inl (hw _ (List.mem_of_getElem? (i := 40) rfl))) (Or.inl (hw _ (List.mem_of_getElem? (i := 83) rfl))) (by decide) (t := .boolean) (t' := .int) (by decide) (by decide)))
        have f786 := f766.other W774 (Or.inr (slot_ne (Or.inl (hw _ (List.mem_of_getElem? (i := 15) rfl))) (Or.inl (hw _ (List.mem_of_getElem? (i := 83) rfl))) (by decide) (t := (.array .byte)) (t' := .int) (by decide) (by decide)))
        have f787 := f767.other W774 (Or.inr (slot_ne (Or.inl (hw _ (List.mem_of_getElem? (i := 69) rfl))) (Or.inl (hw _ (List.mem_of_getElem? (i := 83) rfl))) (by decide) (t := (.array .boolean)) (t' := .int) (by decide) (by decide)))
        have f788 := f769.other W774 (Ne.symm ne641)
        have f789 := f770.other W774 (Ne.symm ne647)
        have z790 := Nat.le_trans z771 (Keep.of_wr W774).1
        have f791 : Fld Z h774 o "com/example/quayside/quayside/Row" "nullCount" "I" (.int (Int32.ofNat (c' + 1))) := f768.same W774
        have N774 := Fr.snoc X774 N755 hg1
        exact own_retV X774 hx hlk hret (own_hb hby d10_76) e774 ⟨(2 * k), rfl, N774, kx775, ⟨rs'638, re'638, (own_set (own_cpy gs cap) k (Int32.ofNat 0)), (own_set (own_cpy ge cap) k (0 : Int32)), (0 : Int32), (own_maxI r (0 : Int32)), f777, f781, f782, f783, f784, f785, f786, f788, f789, hg1, gx639, gx645, ne641, ne647, p638_2, hn4, ne640, ne646, (by omega), (by omega), ⟨own_dB (by omega) hge.1, own_Rch.add hge.2 (by decide)⟩, Or.inr ⟨rn, mn, (c' + 1), (own_set g k (nar .boolean (1 : Int32))), f787, f791, f780, hg4, hn7, (Ne.symm ne644), (Ne.symm ne650), hn10, (by omega), (by omega), (by omega)⟩⟩⟩ (by decide) (by decide)
def Q_rm8pg (Z : State) (x : Addr) (o : Addr) (i : Nat) (j : Int32) (k : Nat) (cap : Nat) (d : Nat → Int32) (bs : Addr) (h0 : Heap) (n0 : Nat) (v : Option Value) (h : Heap) (L : List Loc) : Prop := ∃ cap' : Nat, v = none ∧ Fr n0 L ∧ own_Kx h0 h x ∧ (own_Row Z h n0 x o (k + 1) cap' (own_set d k j) bs)
set_option maxRecDepth 65536 in
set_option maxHeartbeats 40000000 in
theorem rm8pg (l : Launch) (Z : State) (a0 : Array Value) (hw : ∀ d ∈ tables_1, d.before a0 Z = true) (ws : List Jvm.Cond) (x : Addr) (o : Addr) (i : Nat) (j : Int32) (k : Nat) (cap : Nat) (d : Nat → Int32) (bs : Addr) (h0 : Heap) (n0 : Nat) (Z0 : n0 ≤ h0.size) (row : own_Row Z h0 n0 x o k cap d bs) (hk : k ≤ 6) (hi : i < 2 ^ 31) (hij : ¬ j < Int32.ofNat i) (pr4 : own_Lt h0 x) :
    own_Met l Z h0 (⟨"com/example/quayside/quayside/Row", "add", "(II)V"⟩ : MethodName) prog_62_method_3_code 3 none ws ({ frames := 2, cells := 2, slots := 16, locals := 33 } : Room) #[(.ref o), (.int (Int32.ofNat i)), (.int j)] (Q_rm8pg Z x o i j k cap d bs h0 n0) := by
  refine own_enter (plainFor_of_name pn_8) ?_
  intro p e s m below meth c T0 X0 hx hby hml hret hlk hown hnm hZ e0
  have N0 := Fr.nil n0
  have kx0 : own_Kx h0 h0 x := own_Kx.refl
  rw [show entryFrame m #[(.ref o), (.int (Int32.ofNat i)), (.int j)] 3 = (mkF m 0 #[.val (.ref o), .val (.int (Int32.ofNat i)), .val (.int j)] []) from by first | (simp [entryFrame, mkF, argsToLocals, Value.category]; done) | rfl]
  obtain ⟨rs, re, gs, ge, tx, r, hE, hF1, hF2, hF3, hF4, hF5, hF6, hA1, hA2, hg1, hg2, hg3, hn1, hn2, hn3, hn4, hn5, hn6, hkc, hcap, hge, hN⟩ := row
  rcases hN with ⟨hm1, hm2⟩ | ⟨rn, mn, c', g, hm1, hm2, hA3, hg4, hn7, hn8, hn9, hn10, hmn, hmc, hck⟩
  · skip
    by_cases hkk : k < cap
    · skip
      refine own_Go.of (S' := (T0.setTop (mkF m 25 #[.val (.ref o), .val (.int (Int32.ofNat i)), .val (.int j)] [(.ref o)]))) (fun t kt => ?_) ?_
      · show Steps p.tables e below (T0.setTop (mkF m 0 #[.val (.ref o), .val (.int (Int32.ofNat i)), .val (.int j)] [])) _
        refine XS.iloadN X0.here hx rfl (own_hb hby d8_0) rfl ?_
        refine XS.ifNo X0.here hx rfl (own_hb hby d8_1) rfl ((if0 _ _).trans (flt (fun q => by have h2 := (own_ltN (b := 0) hi (by decide)).mp q; omega)).1) ?_
        refine XS.iloadN X0.here hx rfl (own_hb hby d8_4) rfl ?_
        refine XS.iloadN X0.here hx rfl (own_hb hby d8_5) rfl ?_
        show Steps p.tables e below (T0.setTop (mkF m 6 #[.val (.ref o), .val (.int (Int32.ofNat i)), .val (.int j)] [(.int (Int32.ofNat i)), (.int j)])) _
        refine XS.icmpYes X0.here hx rfl (pc0 := 6) (pc' := 24) rfl (own_hb hby d8_6) rfl (flt hij).2.1 (by decide) (by decide) ?_
        refine XS.aloadN X0.here hx rfl (own_hb hby d8_24) rfl rfl ?_
        exact kt
      obtain ⟨T792, X792, e792, st792⟩ := getF X0 hx hZ hown (host := "") (Or.inl (hw _ (List.mem_of_getElem? (i := 56) rfl))) Via.refl e0 hF3 (g := (mkF m 25 #[.val (.ref o), .val (.int (Int32.ofNat i)), .val (.int j)] [(.ref o)])) rfl rfl (own_hb hby d8_25)
      refine own_Go.of (S' := (T792.setTop (mkF m 28 #[.val (.ref o), .val (.int (Int32.ofNat i)), .val (.int j)] [(.int (Int32.ofNat k))]))) st792 ?_
      refine own_Go.of (S' := (T792.setTop (mkF m 29 #[.val (.ref o), .val (.int (Int32.ofNat i)), .val (.int j)] [(.ref o), (.int (Int32.ofNat k))]))) (fun t kt => ?_) ?_
      · show Steps p.tables e below (T792.setTop (mkF m 28 #[.val (.ref o), .val (.int (Int32.ofNat i)), .val (.int j)] [(.int (Int32.ofNat k))])) _
        refine XS.aloadN X792.here hx rfl (own_hb hby d8_28) rfl rfl ?_
        exact kt
      obtain ⟨T793, X793, e793, st793⟩ := getF X792 hx hZ hown (host := "") (Or.inl (hw _ (List.mem_of_getElem? (i := 17) rfl))) Via.refl e792 hF1 (g := (mkF m 29 #[.val (.ref o), .val (.int (Int32.ofNat i)), .val (.int j)] [(.ref o), (.int (Int32.ofNat k))])) rfl rfl (own_hb hby d8_29)
      refine own_Go.of (S' := (T793.setTop (mkF m 32 #[.val (.ref o), .val (.int (Int32.ofNat i)), .val (.int j)] [(.ref rs), (.int (Int32.ofNat k))]))) st793 ?_
      obtain ⟨cl794, Ar794, hln794⟩ := own_Ar.len hA1
      refine own_Go.of (S' := (T793.setTop (mkF m 71 #[.val (.ref o), .val (.int (Int32.ofNat i)), .val (.int j)] [(.ref o)]))) (fun t kt => ?_) ?_
      · show Steps p.tables e below (T793.setTop (mkF m 32 #[.val (.ref o), .val (.int (Int32.ofNat i)), .val (.int j)] [(.ref rs), (.int (Int32.ofNat k))])) _
        refine X793.arraylength hx (by rw [e793]; exact Ar794.1) (State.isArrayOf_alike hZ.alike Ar794.2.1) (g := (mkF m 32 #[.val (.ref o), .val (.int (Int32.ofNat i)), .val (.int j)] [(.ref rs), (.int (Int32.ofNat k))])) rfl rfl (own_hb hby d8_32) _ ?_
        rw [hln794]
        refine XS.icmpYes X793.here hx rfl (pc0 := 33) (pc' := 70) rfl (own_hb hby d8_33) rfl (feq (fun q => by have h2 := (own_eqN (by omega) (by omega)).mp q; omega)).2 (by decide) (by decide) ?_
        refine XS.aloadN X793.here hx rfl (own_hb hby d8_70) rfl rfl ?_
        exact kt
      obtain ⟨T795, X795, e795, st795⟩ := getF X793 hx hZ hown (host := "") (Or.inl (hw _ (List.mem_of_getElem? (i := 17) rfl))) Via.refl e793 hF1 (g := (mkF m 71 #[.val (.ref o), .val (.int (Int32.ofNat i)), .val (.int j)] [(.ref o)])) rfl rfl (own_hb hby d8_71)
      refine own_Go.of (S' := (T795.setTop (mkF m 74 #[.val (.ref o), .val (.int (Int32.ofNat i)), .val (.int j)] [(.ref rs)]))) st795 ?_
      refine own_Go.of (S' := (T795.setTop (mkF m 75 #[.val (.ref o), .val (.int (Int32.ofNat i)), .val (.int j)] [(.ref o), (.ref rs)]))) (fun t kt => ?_) ?_
      · show Steps p.tables e below (T795.setTop (mkF m 74 #[.val (.ref o), .val (.int (Int32.ofNat i)), .val (.int j)] [(.ref rs)])) _
        refine XS.aloadN X795.here hx rfl (own_hb hby d8_74) rfl rfl ?_
        exact kt
      obtain ⟨T796, X796, e796, st796⟩ := getF X795 hx hZ hown (host := "") (Or.inl (hw _ (List.mem_of_getElem? (i := 56) rfl))) Via.refl e795 hF3 (g := (mkF m 75 #[.val (.ref o), .val (.int (Int32.ofNat i)), .val (.int j)] [(.ref o), (.ref rs)])) rfl rfl (own_hb hby d8_75)
      refine own_Go.of (S' := (T796.setTop (mkF m 78 #[.val (.ref o), .val (.int (Int32.ofNat i)), .val (.int j)] [(.int (Int32.ofNat k)), (.ref rs)]))) st796 ?_
      refine own_Go.of (S' := (T796.setTop (mkF m 79 #[.val (.ref o), .val (.int (Int32.ofNat i)), .val (.int j)] [(.int (Int32.ofNat i)), (.int (Int32.ofNat k)), (.ref rs)]))) (fun t kt => ?_) ?_
      · show Steps p.tables e below (T796.setTop (mkF m 78 #[.val (.ref o), .val (.int (Int32.ofNat i)), .val (.int j)] [(.int (Int32.ofNat k)), (.ref rs)])) _
        refine XS.iloadN X796.here hx rfl (own_hb hby d8_78) rfl ?_
        exact kt
      obtain ⟨cl797, Ar797, hin797, ub797⟩ := own_Ar.put (j := (Int32.ofNat k)) (k := k) hA1 ⟨rfl, by omega⟩
      obtain ⟨T797, h797, X797, e797, W797, st797⟩ := stI X796 hx hZ e796 Ar797 (j := (Int32.ofNat k)) hin797 (g := (mkF m 79 #[.val (.ref o), .val (.int (Int32.ofNat i)), .val (.int j)] [(.int (Int32.ofNat i)), (.int (Int32.ofNat k)), (.ref rs)])) rfl rfl (own_hb hby d8_79)
      refine own_Go.of (S' := (T797.setTop (mkF m 80 #[.val (.ref o), .val (.int (Int32.ofNat i)), .val (.int j)] []))) st797 ?_
      have kx798 := kx0.wr W797 hn5
      have f799 := pr4.wr W797
      have f800 := hE.wr W797
      have f801 := hF1.other W797 (Or.inl hn1)
      have f802 := hF2.other W797 (Or.inl hn1)
      have f803 := hF3.other W797 (Or.inl hn1)
      have f804 := hF4.other W797 (Or.inl hn1)
      have f805 := hF5.other W797 (Or.inl hn1)
      have f806 := hF6.other W797 (Or.inl hn1)
      have f807 := hA2.other W797 (Ne.symm hn3)
      have f808 := hm1.other W797 (Or.inl hn1)
      have f809 := hm2.other W797 (Or.inl hn1)
      have z810 := Nat.le_trans Z0 (Keep.of_wr W797).1
      have f811 : own_Ar Z h797 rs .int cap (own_I (own_set gs k (Int32.ofNat i))) := by rw [← own_upI]; exact ub797 rfl W797
      have N797 := Fr.snoc X797 N0 hg2
      refine own_Go.of (S' := (T797.setTop (mkF m 81 #[.val (.ref o), .val (.int (Int32.ofNat i)), .val (.int j)] [(.ref o)]))) (fun t kt => ?_) ?_
      · show Steps p.tables e below (T797.setTop (mkF m 80 #[.val (.ref o), .val (.int (Int32.ofNat i)), .val (.int j)] [])) _
        refine XS.aloadN X797.here hx rfl (own_hb hby d8_80) rfl rfl ?_
        exact kt
      obtain ⟨T812, X812, e812, st812⟩ := getF X797 hx hZ hown (host := "") (Or.inl (hw _ (List.mem_of_getElem? (i := 19) rfl))) Via.refl e797 f802 (g := (mkF m 81 #[.val (.ref o), .val (.int (Int32.ofNat i)), .val (.int j)] [(.ref o)])) rfl rfl (own_hb hby d8_81)
      refine own_Go.of (S' := (T812.setTop (mkF m 84 #[.val (.ref o), .val (.int (Int32.ofNat i)), .val (.int j)] [(.ref re)]))) st812 ?_
      refine own_Go.of (S' := (T812.setTop (mkF m 85 #[.val (.ref o), .val (.int (Int32.ofNat i)), .val (.int j)] [(.ref o), (.ref re)]))) (fun t kt => ?_) ?_
      · show Steps p.tables e below (T812.setTop (mkF m 84 #[.val (.ref o), .val (.int (Int32.ofNat i)), .val (.int j)] [(.ref re)])) _
        refine XS.aloadN X812.here hx rfl (own_hb hby d8_84) rfl rfl ?_
        exact kt
      obtain ⟨T813, X813, e813, st813⟩ := getF X812 hx hZ hown (host := "") (Or.inl (hw _ (List.mem_of_getElem? (i := 56) rfl))) Via.refl e812 f803 (g := (mkF m 85 #[.val (.ref o), .val (.int (Int32.ofNat i)), .val (.int j)] [(.ref o), (.ref re)])) rfl rfl (own_hb hby d8_85)
      refine own_Go.of (S' := (T813.setTop (mkF m 88 #[.val (.ref o), .val (.int (Int32.ofNat i)), .val (.int j)] [(.int (Int32.ofNat k)), (.ref re)]))) st813 ?_
      refine own_Go.of (S' := (T813.setTop (mkF m 89 #[.val (.ref o), .val (.int (Int32.ofNat i)), .val (.int j)] [(.int j), (.int (Int32.ofNat k)), (.ref re)]))) (fun t kt => ?_) ?_
      · show Steps p.tables e below (T813.setTop (mkF m 88 #[.val (.ref o), .val (.int (Int32.ofNat i)), .val (.int j)] [(.int (Int32.ofNat k)), (.ref re)])) _
        refine XS.iloadN X813.here hx rfl (own_hb hby d8_88) rfl ?_
        exact kt
      obtain ⟨cl814, Ar814, hin814, ub814⟩ := own_Ar.put (j := (Int32.ofNat k)) (k := k) f807 ⟨rfl, by omega⟩
      obtain ⟨T814, h814, X814, e814, W814, st814⟩ := stI X813 hx hZ e813 Ar814 (j := (Int32.ofNat k)) hin814 (g := (mkF m 89 #[.val (.ref o), .val (.int (Int32.ofNat i)), .val (.int j)] [(.int j), (.int (Int32.ofNat k)), (.ref re)])) rfl rfl (own_hb hby d8_89)
      refine own_Go.of (S' := (T814.setTop (mkF m 90 #[.val (.ref o), .val (.int (Int32.ofNat i)), .val (.int j)] []))) st814 ?_
      have kx815 := kx798.wr W814 hn6
      have f816 := f799.wr W814
      have f817 := f800.wr W814
      have f818 := f801.other W814 (Or.inl hn2)
      have f819 := f802.other W814 (Or.inl hn2)
      have f820 := f803.other W814 (Or.inl hn2)
      have f821 := f804.other W814 (Or.inl hn2)
      have f822 := f805.other W814 (Or.inl hn2)
      have f823 := f806.other W814 (Or.inl hn2)
      have f824 := f811.other W814 hn3
      have f825 := f808.other W814 (Or.inl hn2)
      have f826 := f809.other W814 (Or.inl hn2)
      have z827 := Nat.le_trans z810 (Keep.of_wr W814).1
      have f828 : own_Ar Z h814 re .int cap (own_I (own_set ge k j)) := by rw [← own_upI]; exact ub814 rfl W814
      have N814 := Fr.snoc X814 N797 hg3
      refine own_Go.of (S' := (T814.setTop (mkF m 92 #[.val (.ref o), .val (.int (Int32.ofNat i)), .val (.int j)] [(.ref o), (.ref o)]))) (fun t kt => ?_) ?_
      · show Steps p.tables e below (T814.setTop (mkF m 90 #[.val (.ref o), .val (.int (Int32.ofNat i)), .val (.int j)] [])) _
        refine XS.aloadN X814.here hx rfl (own_hb hby d8_90) rfl rfl ?_
        refine XS.dup X814.here hx rfl (own_hb hby d8_91) rfl rfl ?_
        exact kt
      obtain ⟨T829, X829, e829, st829⟩ := getF X814 hx hZ hown (host := "") (Or.inl (hw _ (List.mem_of_getElem? (i := 56) rfl))) Via.refl e814 f820 (g := (mkF m 92 #[.val (.ref o), .val (.int (Int32.ofNat i)), .val (.int j)] [(.ref o), (.ref o)])) rfl rfl (own_hb hby d8_92)
      refine own_Go.of (S' := (T829.setTop (mkF m 95 #[.val (.ref o), .val (.int (Int32.ofNat i)), .val (.int j)] [(.int (Int32.ofNat k)), (.ref o)]))) st829 ?_
      refine own_Go.of (S' := (T829.setTop (mkF m 97 #[.val (.ref o), .val (.int (Int32.ofNat i)), .val (.int j)] [(.int (Int32.ofNat (k + 1))), (.ref o)]))) (fun t kt => ?_) ?_
      · show Steps p.tables e below (T829.setTop (mkF m 95 #[.val (.ref o), .val (.int (Int32.ofNat i)), .val (.int j)] [(.int (Int32.ofNat k)), (.ref o)])) _
        refine XS.iconst X829.here hx rfl (own_hb hby d8_95) ?_
        refine XS.iadd X829.here hx rfl (own_hb hby d8_96) rfl ?_
        show Steps p.tables e below (T829.setTop (mkF m 97 #[.val (.ref o), .val (.int (Int32.ofNat i)), .val (.int j)] [(.int ((Int32.ofNat k) + (1 : Int32))), (.ref o)])) _
        rw [show Int32.ofNat k + (1 : Int32) = Int32.ofNat (k + 1) from own_addN k 1]
        exact kt
      obtain ⟨T830, h830, X830, e830, W830, st830⟩ := putF X829 hx hZ hown (host := "") (Or.inl (hw _ (List.mem_of_getElem? (i := 56) rfl))) Via.refl e829 f820 f817 (Or.inl (hw _ (List.mem_of_getElem? (i := 57) rfl))) (hw _ (List.mem_of_getElem? (i := 6) rfl)) (ty := .int) (by decide) rfl rfl (g := (mkF m 97 #[.val (.ref o), .val (.int (Int32.ofNat i)), .val (.int j)] [(.int (Int32.ofNat (k + 1))), (.ref o)])) rfl rfl (own_hb hby d8_97)
      refine own_Go.of (S' := (T830.setTop (mkF m 100 #[.val (.ref o), .val (.int (Int32.ofNat i)), .val (.int j)] []))) st830 ?_
      have kx831 := kx815.wr W830 hn4
      have f832 := f816.wr W830
      have f833 := f817.wr W830
      have f834 := f818.other W830 (Or.inr (slot_ne (Or.inl (hw _ (List.mem_of_getElem? (i := 18) rfl))) (Or.inl (hw _ (List.mem_of_getElem? (i := 57) rfl))) (by decide) (t := (.array .int)) (t' := .int) (by decide) (by decide)))
      have f835 := f819.other W830 (Or.inr (slot_ne (Or.inl (hw _ (List.mem_of_getElem? (i := 20) rfl))) (Or.inl (hw _ (List.mem_of_getElem? (i := 57) rfl))) (by decide) (t := (.array .int)) (t' := .int) (by decide) (by decide)))
      have f836 := f821.other W830 (Or.inr (slot_ne (Or.inl (hw _ (List.mem_of_getElem? (i := 50) rfl))) (Or.inl (hw _ (List.mem_of_getElem? (i := 57) rfl))) (by decide) (t := .int) (t' := .int) (by decide) (by decide)))
      have f837 := f822.other W830 (Or.inr (slot_ne (Or.inl (hw _ (List.mem_of_getElem? (i := 40) rfl))) (Or.inl (hw _ (List.mem_of_getElem? (i := 57) rfl))) (by decide) (t := .boolean) (t' := .int) (by decide) (by decide)))
      have f838 := f823.other W830 (Or.inr (slot_ne (Or.inl (hw _ (List.mem_of_getElem? (i := 15) rfl))) (Or.inl (hw _ (List.mem_of_getElem? (i := 57) rfl))) (by decide) (t := (.array .byte)) (t' := .int) (by decide) (by decide)))
      have f839 := f824.other W830 (Ne.symm hn1)
      have f840 := f828.other W830 (Ne.symm hn2)
      have f841 := f825.other W830 (Or.inr (slot_ne (Or.inl (hw _ (List.mem_of_getElem? (i := 69) rfl))) (Or.inl (hw _ (List.mem_of_getElem? (i := 57) rfl))) (by decide) (t := (.array .boolean)) (t' := .int) (by decide) (by decide)))
      have f842 := f826.other W830 (Or.inr (slot_ne (Or.inl (hw _ (List.mem_of_getElem? (i := 83) rfl))) (Or.inl (hw _ (List.mem_of_getElem? (i := 57) rfl))) (by decide) (t := .int) (t' := .int) (by decide) (by decide)))
      have z843 := Nat.le_trans z827 (Keep.of_wr W830).1
      have f844 : Fld Z h830 o "com/example/quayside/quayside/Row" "size" "I" (.int (Int32.ofNat (k + 1))) := f820.same W830
      have N830 := Fr.snoc X830 N814 hg1
      refine own_Go.of (S' := (T830.setTop (mkF m 102 #[.val (.ref o), .val (.int (Int32.ofNat i)), .val (.int j)] [(.ref o), (.ref o)]))) (fun t kt => ?_) ?_
      · show Steps p.tables e below (T830.setTop (mkF m 100 #[.val (.ref o), .val (.int (Int32.ofNat i)), .val (.int j)] [])) _
        refine XS.aloadN X830.here hx rfl (own_hb hby d8_100) rfl rfl ?_
        refine XS.aloadN X830.here hx rfl (own_hb hby d8_101) rfl rfl ?_
        exact kt
      obtain ⟨T845, X845, e845, st845⟩ := getF X830 hx hZ hown (host := "") (Or.inl (hw _ (List.mem_of_getElem? (i := 49) rfl))) Via.refl e830 f836 (g := (mkF m 102 #[.val (.ref o), .val (.int (Int32.ofNat i)), .val (.int j)] [(.ref o), (.ref o)])) rfl rfl (own_hb hby d8_102)
      refine own_Go.of (S' := (T845.setTop (mkF m 105 #[.val (.ref o), .val (.int (Int32.ofNat i)), .val (.int j)] [(.int r), (.ref o)]))) st845 ?_
      refine own_Go.of (S' := (T845.setTop (mkF m 106 #[.val (.ref o), .val (.int (Int32.ofNat i)), .val (.int j)] [(.int j), (.int r), (.ref o)]))) (fun t kt => ?_) ?_
      · show Steps p.tables e below (T845.setTop (mkF m 105 #[.val (.ref o), .val (.int (Int32.ofNat i)), .val (.int j)] [(.int r), (.ref o)])) _
        refine XS.iloadN X845.here hx rfl (own_hb hby d8_105) rfl ?_
        exact kt
      obtain ⟨_, _, ⟨T846, L846, k846, n846⟩, -, X846, ⟨Lc846, hQ846, l846, y846, z846⟩, st846⟩ := Jvm.LawKit.callS X845 hx (y := (⟨"java/lang/Math", "max", "(II)I"⟩ : MethodName)) hown (mvT hZ (hw _ (List.mem_of_getElem? (i := 58) rfl))) (mvT hZ (hw _ (List.mem_of_getElem? (i := 59) rfl))) (mvT hZ (hw _ (List.mem_of_getElem? (i := 60) rfl))) (mvT hZ (hw _ (List.mem_of_getElem? (i := 61) rfl))) (by decide) (backOf (W := 1) (rm9 l Z a0 hw [] r j h830 n0 z843 ) hZ (hw _ (List.mem_of_getElem? (i := 61) rfl)) (hw _ (List.mem_of_getElem? (i := 60) rfl)) (by decide) (by decide)) (g := (mkF m 106 #[.val (.ref o), .val (.int (Int32.ofNat i)), .val (.int j)] [(.int j), (.int r), (.ref o)])) rfl (by rw [hml]; rfl) (argsL := [(.int r), (.int j)]) (rest := [(.ref o)]) (lenOf pd_0 rfl) rfl (by show 2 * 0 + _ ≤ _; exact Nat.le_of_eq rfl) (own_hb hby d8_106) (fun _ _ => ⟨rfl, e845, (by decide : 0 + 0 ≤ _), (by decide : 0 + 0 ≤ _)⟩)
      dsimp only [Pt.U, Pt.locs, Pt.cells, Pt.slots] at X846 l846 y846 z846 st846 hQ846
      subst l846 y846 z846
      obtain ⟨rfl, N846q, hh846⟩ := hQ846
      have N846 := Fr.app N830 N846q
      refine own_Go.of (S' := (T846.setTop (mkF m 109 #[.val (.ref o), .val (.int (Int32.ofNat i)), .val (.int j)] [(.int (own_maxI r j)), (.ref o)]))) (fun t kt => st846 t kt) ?_
      obtain ⟨T847, h847, X847, e847, W847, st847⟩ := putF X846 hx hZ hown (host := "") (Or.inl (hw _ (List.mem_of_getElem? (i := 49) rfl))) Via.refl hh846 f836 f833 (Or.inl (hw _ (List.mem_of_getElem? (i := 50) rfl))) (hw _ (List.mem_of_getElem? (i := 6) rfl)) (ty := .int) (by decide) rfl rfl (g := (mkF m 109 #[.val (.ref o), .val (.int (Int32.ofNat i)), .val (.int j)] [(.int (own_maxI r j)), (.ref o)])) rfl rfl (own_hb hby d8_109)
      refine own_Go.of (S' := (T847.setTop (mkF m 112 #[.val (.ref o), .val (.int (Int32.ofNat i)), .val (.int j)] []))) st847 ?_
      have kx848 := kx831.wr W847 hn4
      have f849 := f832.wr W847
      have f850 := f833.wr W847
      have f851 := f834.other W847 (Or.inr (slot_ne (Or.inl (hw _ (List.mem_of_getElem? (i := 18) rfl))) (Or.inl (hw _ (List.mem_of_getElem? (i := 50) rfl))) (by decide) (t := (.array .int)) (t' := .int) (by decide) (by decide)))
      have f852 := f835.other W847 (Or.inr (slot_ne (Or.inl (hw _ (List.mem_of_getElem? (i := 20) rfl))) (Or.inl (hw _ (List.mem_of_getElem? (i := 50) rfl))) (by decide) (t := (.array .int)) (t' := .int) (by decide) (by decide)))
      have f853 := f844.other W847 (Or.inr (slot_ne (Or.inl (hw _ (List.mem_of_getElem? (i := 57) rfl))) (Or.inl (hw _ (List.mem_of_getElem? (i := 50) rfl))) (by decide) (t := .int) (t' := .int) (by decide) (by decide)))
      have f854 := f837.other W847 (Or.inr (slot_ne (Or.inl (hw _ (List.mem_of_getElem? (i := 40) rfl))) (Or.inl (hw _ (List.mem_of_getElem? (i := 50) rfl))) (by decide) (t := .boolean) (t' := .int) (by decide) (by decide)))
      have f855 := f838.other W847 (Or.inr (slot_ne (Or.inl (hw _ (List.mem_of_getElem? (i := 15) rfl))) (Or.inl (hw _ (List.mem_of_getElem? (i := 50) rfl))) (by decide) (t := (.array .byte)) (t' := .int) (by decide) (by decide)))
      have f856 := f839.other W847 (Ne.symm hn1)
      have f857 := f840.other W847 (Ne.symm hn2)
      have f858 := f841.other W847 (Or.inr (slot_ne (Or.inl (hw _ (List.mem_of_getElem? (i := 69) rfl))) (Or.inl (hw _ (List.mem_of_getElem? (i := 50) rfl))) (by decide) (t := (.array .boolean)) (t' := .int) (by decide) (by decide)))
      have f859 := f842.other W847 (Or.inr (slot_ne (Or.inl (hw _ (List.mem_of_getElem? (i := 83) rfl))) (Or.inl (hw _ (List.mem_of_getElem? (i := 50) rfl))) (by decide) (t := .int) (t' := .int) (by decide) (by decide)))
      have z860 := Nat.le_trans z843 (Keep.of_wr W847).1
      have f861 : Fld Z h847 o "com/example/quayside/quayside/Row" "reach" "I" (.int (own_maxI r j)) := f836.same W847
      have N847 := Fr.snoc X847 N846 hg1
      refine own_Go.of (S' := (T847.setTop (mkF m 114 #[.val (.ref o), .val (.int (Int32.ofNat i)), .val (.int j)] [(.int (0 : Int32)), (.ref o)]))) (fun t kt => ?_) ?_
      · show Steps p.tables e below (T847.setTop (mkF m 112 #[.val (.ref o), .val (.int (Int32.ofNat i)), .val (.int j)] [])) _
        refine XS.aloadN X847.here hx rfl (own_hb hby d8_112) rfl rfl ?_
        refine XS.iconst X847.here hx rfl (own_hb hby d8_113) ?_
        exact kt
      obtain ⟨T862, h862, X862, e862, W862, st862⟩ := putFN X847 hx hZ hown (hw _ (List.mem_of_getElem? (i := 39) rfl)) Via.refl e847 f854 f850 (Or.inl (hw _ (List.mem_of_getElem? (i := 40) rfl))) (hw _ (List.mem_of_getElem? (i := 6) rfl)) (ty := .boolean) (v' := (.int (nar .boolean (0 : Int32)))) (by decide) rfl (fits_nar_bool _) (g := (mkF m 114 #[.val (.ref o), .val (.int (Int32.ofNat i)), .val (.int j)] [(.int (0 : Int32)), (.ref o)])) rfl rfl (own_hb hby d8_114)
      refine own_Go.of (S' := (T862.setTop (mkF m 117 #[.val (.ref o), .val (.int (Int32.ofNat i)), .val (.int j)] []))) st862 ?_
      have kx863 := kx848.wr W862 hn4
      have f864 := f849.wr W862
      have f865 := f850.wr W862
      have f866 := f851.other W862 (Or.inr (slot_ne (Or.inl (hw _ (List.mem_of_getElem? (i := 18) rfl))) (Or.inl (hw _ (List.mem_of_getElem? (i := 40) rfl))) (by decide) (t := (.array .int)) (t' := .boolean) (by decide) (by decide)))
      have f867 := f852.other W862 (Or.inr (slot_ne (Or.inl (hw _ (List.mem_of_getElem? (i := 20) rfl))) (Or.inl (hw _ (List.mem_of_getElem? (i := 40) rfl))) (by decide) (t := (.array .int)) (t' := .boolean) (by decide) (by decide)))
      have f868 := f853.other W862 (Or.inr (slot_ne (Or.inl (hw _ (List.mem_of_getElem? (i := 57) rfl))) (Or.inl (hw _ (List.mem_of_getElem? (i := 40) rfl))) (by decide) (t := .int) (t' := .boolean) (by decide) (by decide)))
      have f869 := f861.other W862 (Or.inr (slot_ne (Or.inl (hw _ (List.mem_of_getElem? (i := 50) rfl))) (Or.inl (hw _ (List.mem_of_getElem? (i := 40) rfl))) (by decide) (t := .int) (t' := .boolean) (by decide) (by decide)))
      have f870 := f855.other W862 (Or.inr (slot_ne (Or.inl (hw _ (List.mem_of_getElem? (i := 15) rfl))) (Or.inl (hw _ (List.mem_of_getElem? (i := 40) rfl))) (by decide) (t := (.array .byte)) (t' := .boolean) (by decide) (by decide)))
      have f871 := f856.other W862 (Ne.symm hn1)
      have f872 := f857.other W862 (Ne.symm hn2)
      have f873 := f858.other W862 (Or.inr (slot_ne (Or.inl (hw _ (List.mem_of_getElem? (i := 69) rfl))) (Or.inl (hw _ (List.mem_of_getElem? (i := 40) rfl))) (by decide) (t := (.array .boolean)) (t' := .boolean) (by decide) (by decide)))
      have f874 := f859.other W862 (Or.inr (slot_ne (Or.inl (hw _ (List.mem_of_getElem? (i := 83) rfl))) (Or.inl (hw _ (List.mem_of_getElem? (i := 40) rfl))) (by decide) (t := .int) (t' := .boolean) (by decide) (by decide)))
      have z875 := Nat.le_trans z860 (Keep.of_wr W862).1
      have f876 : Fld Z h862 o "com/example/quayside/quayside/Row" "text" "Z" (.int (nar .boolean (0 : Int32))) := f854.same W862
      have N862 := Fr.snoc X862 N847 hg1
      have f877 : Fld Z h862 o "com/example/quayside/quayside/Row" "text" "Z" (.int (0 : Int32)) := f876
      exact own_retV X862 hx hlk hret (own_hb hby d8_117) e862 ⟨cap, rfl, N862, kx863, ⟨rs, re, (own_set gs k (Int32.ofNat i)), (own_set ge k j), (0 : Int32), (own_maxI r j), f865, f866, f867, f868, f869, f877, f870, f871, f872, hg1, hg2, hg3, hn1, hn2, hn3, hn4, hn5, hn6, (by omega), (by omega), ⟨own_dA hge.1, own_Rch.add hge.2 (own_nneg hi hij)⟩, Or.inl ⟨f873, f874⟩⟩⟩ (by decide) (by decide)
    · skip
      refine own_Go.of (S' := (T0.setTop (mkF m 25 #[.val (.ref o), .val (.int (Int32.ofNat i)), .val (.int j)] [(.ref o)]))) (fun t kt => ?_) ?_
      · show Steps p.tables e below (T0.setTop (mkF m 0 #[.val (.ref o), .val (.int (Int32.ofNat i)), .val (.int j)] [])) _
        refine XS.iloadN X0.here hx rfl (own_hb hby d8_0) rfl ?_
        refine XS.ifNo X0.here hx rfl (own_hb hby d8_1) rfl ((if0 _ _).trans (flt (fun q => by have h2 := (own_ltN (b := 0) hi (by decide)).mp q; omega)).1) ?_
        refine XS.iloadN X0.here hx rfl (own_hb hby d8_4) rfl ?_
        refine XS.iloadN X0.here hx rfl (own_hb hby d8_5) rfl ?_
        show Steps p.tables e below (T0.setTop (mkF m 6 #[.val (.ref o), .val (.int (Int32.ofNat i)), .val (.int j)] [(.int (Int32.ofNat i)), (.int j)])) _
        refine XS.icmpYes X0.here hx rfl (pc0 := 6) (pc' := 24) rfl (own_hb hby d8_6) rfl (flt hij).2.1 (by decide) (by decide) ?_
        refine XS.aloadN X0.here hx rfl (own_hb hby d8_24) rfl rfl ?_
        exact kt
      obtain ⟨T878, X878, e878, st878⟩ := getF X0 hx hZ hown (host := "") (Or.inl (hw _ (List.mem_of_getElem? (i := 56) rfl))) Via.refl e0 hF3 (g := (mkF m 25 #[.val (.ref o), .val (.int (Int32.ofNat i)), .val (.int j)] [(.ref o)])) rfl rfl (own_hb hby d8_25)
      refine own_Go.of (S' := (T878.setTop (mkF m 28 #[.val (.ref o), .val (.int (Int32.ofNat i)), .val (.int j)] [(.int (Int32.ofNat k))]))) st878 ?_
      refine own_Go.of (S' := (T878.setTop (mkF m 29 #[.val (.ref o), .val (.int (Int32.ofNat i)), .val (.int j)] [(.ref o), (.int (Int32.ofNat k))]))) (fun t kt => ?_) ?_
      · show Steps p.tables e below (T878.setTop (mkF m 28 #[.val (.ref o), .val (.int (Int32.ofNat i)), .val (.int j)] [(.int (Int32.ofNat k))])) _
        refine XS.aloadN X878.here hx rfl (own_hb hby d8_28) rfl rfl ?_
        exact kt
      obtain ⟨T879, X879, e879, st879⟩ := getF X878 hx hZ hown (host := "") (Or.inl (hw _ (List.mem_of_getElem? (i := 17) rfl))) Via.refl e878 hF1 (g := (mkF m 29 #[.val (.ref o), .val (.int (Int32.ofNat i)), .val (.int j)] [(.ref o), (.int (Int32.ofNat k))])) rfl rfl (own_hb hby d8_29)
      refine own_Go.of (S' := (T879.setTop (mkF m 32 #[.val (.ref o), .val (.int (Int32.ofNat i)), .val (.int j)] [(.ref rs), (.int (Int32.ofNat k))]))) st879 ?_
      obtain ⟨cl880, Ar880, hln880⟩ := own_Ar.len hA1
      refine own_Go.of (S' := (T879.setTop (mkF m 38 #[.val (.ref o), .val (.int (Int32.ofNat i)), .val (.int j)] [(.ref o), (.ref o)]))) (fun t kt => ?_) ?_
      · show Steps p.tables e below (T879.setTop (mkF m 32 #[.val (.ref o), .val (.int (Int32.ofNat i)), .val (.int j)] [(.ref rs), (.int (Int32.ofNat k))])) _
        refine X879.arraylength hx (by rw [e879]; exact Ar880.1) (State.isArrayOf_alike hZ.alike Ar880.2.1) (g := (mkF m 32 #[.val (.ref o), .val (.int (Int32.ofNat i)), .val (.int j)] [(.ref rs), (.int (Int32.ofNat k))])) rfl rfl (own_hb hby d8_32) _ ?_
        rw [hln880]
        refine XS.icmpNo X879.here hx rfl (own_hb hby d8_33) rfl (teq (own_eqN' (by omega))).2 ?_
        refine XS.aloadN X879.here hx rfl (own_hb hby d8_36) rfl rfl ?_
        refine XS.aloadN X879.here hx rfl (own_hb hby d8_37) rfl rfl ?_
        exact kt
      obtain ⟨T881, X881, e881, st881⟩ := getF X879 hx hZ hown (host := "") (Or.inl (hw _ (List.mem_of_getElem? (i := 17) rfl))) Via.refl e879 hF1 (g := (mkF m 38 #[.val (.ref o), .val (.int (Int32.ofNat i)), .val (.int j)] [(.ref o), (.ref o)])) rfl rfl (own_hb hby d8_38)
      refine own_Go.of (S' := (T881.setTop (mkF m 41 #[.val (.ref o), .val (.int (Int32.ofNat i)), .val (.int j)] [(.ref rs), (.ref o)]))) st881 ?_
      refine own_Go.of (S' := (T881.setTop (mkF m 43 #[.val (.ref o), .val (.int (Int32.ofNat i)), .val (.int j)] [(.ref o), (.int (2 : Int32)), (.ref rs), (.ref o)]))) (fun t kt => ?_) ?_
      · show Steps p.tables e below (T881.setTop (mkF m 41 #[.val (.ref o), .val (.int (Int32.ofNat i)), .val (.int j)] [(.ref rs), (.ref o)])) _
        refine XS.iconst X881.here hx rfl (own_hb hby d8_41) ?_
        refine XS.aloadN X881.here hx rfl (own_hb hby d8_42) rfl rfl ?_
        exact kt
      obtain ⟨T882, X882, e882, st882⟩ := getF X881 hx hZ hown (host := "") (Or.inl (hw _ (List.mem_of_getElem? (i := 56) rfl))) Via.refl e881 hF3 (g := (mkF m 43 #[.val (.ref o), .val (.int (Int32.ofNat i)), .val (.int j)] [(.ref o), (.int (2 : Int32)), (.ref rs), (.ref o)])) rfl rfl (own_hb hby d8_43)
      refine own_Go.of (S' := (T882.setTop (mkF m 46 #[.val (.ref o), .val (.int (Int32.ofNat i)), .val (.int j)] [(.int (Int32.ofNat k)), (.int (2 : Int32)), (.ref rs), (.ref o)]))) st882 ?_
      refine own_Go.of (S' := (T882.setTop (mkF m 47 #[.val (.ref o), .val (.int (Int32.ofNat i)), .val (.int j)] [(.int (Int32.ofNat (2 * k))), (.ref rs), (.ref o)]))) (fun t kt => ?_) ?_
      · show Steps p.tables e below (T882.setTop (mkF m 46 #[.val (.ref o), .val (.int (Int32.ofNat i)), .val (.int j)] [(.int (Int32.ofNat k)), (.int (2 : Int32)), (.ref rs), (.ref o)])) _
        refine XS.imul X882.here hx rfl (own_hb hby d8_46) rfl ?_
        show Steps p.tables e below (T882.setTop (mkF m 47 #[.val (.ref o), .val (.int (Int32.ofNat i)), .val (.int j)] [(.int ((2 : Int32) * (Int32.ofNat k))), (.ref rs), (.ref o)])) _
        rw [show (2 : Int32) * Int32.ofNat k = Int32.ofNat (2 * k) from (Int32.ofNat_mul 2 k).symm]
        exact kt
      obtain ⟨_, _, ⟨T883, L883, k883, n883⟩, -, X883, ⟨Lc883, hQ883, l883, y883, z883⟩, st883⟩ := Jvm.LawKit.callS X882 hx (y := (⟨"java/util/Arrays", "copyOf", "([II)[I"⟩ : MethodName)) hown (mvT hZ (hw _ (List.mem_of_getElem? (i := 84) rfl))) (mvT hZ (hw _ (List.mem_of_getElem? (i := 85) rfl))) (mvT hZ (hw _ (List.mem_of_getElem? (i := 73) rfl))) (mvT hZ (hw _ (List.mem_of_getElem? (i := 86) rfl))) (by decide) (backOf (W := 1) (rm13 l Z a0 hw [] rs (2 * k) cap gs h0 n0 Z0 hA1 (by omega) (by omega)) hZ (hw _ (List.mem_of_getElem? (i := 86) rfl)) (hw _ (List.mem_of_getElem? (i := 73) rfl)) (by decide) (by decide)) (g := (mkF m 47 #[.val (.ref o), .val (.int (Int32.ofNat i)), .val (.int j)] [(.int (Int32.ofNat (2 * k))), (.ref rs), (.ref o)])) rfl (by rw [hml]; rfl) (argsL := [(.ref rs), (.int (Int32.ofNat (2 * k)))]) (rest := [(.ref o)]) (lenOf pd_1 rfl) rfl (by show 2 * 0 + _ ≤ _; exact Nat.le_of_eq rfl) (own_hb hby d8_47) (fun _ _ => ⟨rfl, e882, (by decide : 0 + 1 ≤ _), (by decide : 0 + 8 ≤ _)⟩)
      dsimp only [Pt.U, Pt.locs, Pt.cells, Pt.slots] at X883 l883 y883 z883 st883 hQ883
      subst l883 y883 z883
      obtain ⟨b883, rfl, N883q, K883, p883_0, p883_1⟩ := hQ883
      have N883 := Fr.app N0 N883q
      refine own_Go.of (S' := (T883.setTop (mkF m 50 #[.val (.ref o), .val (.int (Int32.ofNat i)), .val (.int j)] [(.ref b883), (.ref o)]))) (fun t kt => st883 t kt) ?_
      have gx884 : n0 ≤ b883 := Nat.le_trans Z0 p883_0
      have ne885 : x ≠ b883 := Nat.ne_of_lt (Nat.lt_of_lt_of_le pr4.lt p883_0)
      have ne886 : o ≠ b883 := Nat.ne_of_lt (Nat.lt_of_lt_of_le hE.lt p883_0)
      have ne887 : rs ≠ b883 := Nat.ne_of_lt (Nat.lt_of_lt_of_le hA1.lt p883_0)
      have ne888 : re ≠ b883 := Nat.ne_of_lt (Nat.lt_of_lt_of_le hA2.lt p883_0)
      have kx889 := kx0.keep K883 nin0
      have f890 := pr4.keep K883
      have f891 := hE.keep K883
      have f892 := hF1.keep K883 nin0
      have f893 := hF2.keep K883 nin0
      have f894 := hF3.keep K883 nin0
      have f895 := hF4.keep K883 nin0
      have f896 := hF5.keep K883 nin0
      have f897 := hF6.keep K883 nin0
      have f898 := hA1.keep K883 nin0
      have f899 := hA2.keep K883 nin0
      have f900 := hm1.keep K883 nin0
      have f901 := hm2.keep K883 nin0
      have z902 := Nat.le_trans Z0 K883.1
      obtain ⟨T903, h903, X903, e903, W903, st903⟩ := putF X883 hx hZ hown (host := "") (Or.inl (hw _ (List.mem_of_getElem? (i := 17) rfl))) Via.refl rfl f892 f891 (Or.inl (hw _ (List.mem_of_getElem? (i := 18) rfl))) (hw _ (List.mem_of_getElem? (i := 6) rfl)) (ty := (.array .int)) (by decide) rfl rfl (g := (mkF m 50 #[.val (.ref o), .val (.int (Int32.ofNat i)), .val (.int j)] [(.ref b883), (.ref o)])) rfl rfl (own_hb hby d8_50)
      refine own_Go.of (S' := (T903.setTop (mkF m 53 #[.val (.ref o), .val (.int (Int32.ofNat i)), .val (.int j)] []))) st903 ?_
      have kx904 := kx889.wr W903 hn4
      have f905 := f890.wr W903
      have f906 := f891.wr W903
      have f907 := f893.other W903 (Or.inr (slot_ne (Or.inl (hw _ (List.mem_of_getElem? (i := 20) rfl))) (Or.inl (hw _ (List.mem_of_getElem? (i := 18) rfl))) (by decide) (t := (.array .int)) (t' := (.array .int)) (by decide) (by decide)))
      have f908 := f894.other W903 (Or.inr (slot_ne (Or.inl (hw _ (List.mem_of_getElem? (i := 57) rfl))) (Or.inl (hw _ (List.mem_of_getElem? (i := 18) rfl))) (by decide) (t := .int) (t' := (.array .int)) (by decide) (by decide)))
      have f909 := f895.other W903 (Or.inr (slot_ne (Or.inl (hw _ (List.mem_of_getElem? (i := 50) rfl))) (Or.inl (hw _ (List.mem_of_getElem? (i := 18) rfl))) (by decide) (t := .int) (t' := (.array .int)) (by decide) (by decide)))
      have f910 := f896.other W903 (Or.inr (slot_ne (Or.inl (hw _ (List.mem_of_getElem? (i := 40) rfl))) (Or.inl (hw _ (List.mem_of_getElem? (i := 18) rfl))) (by decide) (t := .boolean) (t' := (.array .int)) (by decide) (by decide)))
      have f911 := f897.other W903 (Or.inr (slot_ne (Or.inl (hw _ (List.mem_of_getElem? (i := 15) rfl))) (Or.inl (hw _ (List.mem_of_getElem? (i := 18) rfl))) (by decide) (t := (.array .byte)) (t' := (.array .int)) (by decide) (by decide)))
      have f912 := f898.other W903 (Ne.symm hn1)
      have f913 := f899.other W903 (Ne.symm hn2)
      have f914 := f900.other W903 (Or.inr (slot_ne (Or.inl (hw _ (List.mem_of_getElem? (i := 69) rfl))) (Or.inl (hw _ (List.mem_of_getElem? (i := 18) rfl))) (by decide) (t := (.array .boolean)) (t' := (.array .int)) (by decide) (by decide)))
      have f915 := f901.other W903 (Or.inr (slot_ne (Or.inl (hw _ (List.mem_of_getElem? (i := 83) rfl))) (Or.inl (hw _ (List.mem_of_getElem? (i := 18) rfl))) (by decide) (t := .int) (t' := (.array .int)) (by decide) (by decide)))
      have f916 := p883_1.other W903 (Ne.symm ne886)
      have z917 := Nat.le_trans z902 (Keep.of_wr W903).1
      have f918 : Fld Z h903 o "com/example/quayside/quayside/Row" "starts" "[I" (.ref b883) := f892.same W903
      have N903 := Fr.snoc X903 N883 hg1
      refine own_Go.of (S' := (T903.setTop (mkF m 55 #[.val (.ref o), .val (.int (Int32.ofNat i)), .val (.int j)] [(.ref o), (.ref o)]))) (fun t kt => ?_) ?_
      · show Steps p.tables e below (T903.setTop (mkF m 53 #[.val (.ref o), .val (.int (Int32.ofNat i)), .val (.int j)] [])) _
        refine XS.aloadN X903.here hx rfl (own_hb hby d8_53) rfl rfl ?_
        refine XS.aloadN X903.here hx rfl (own_hb hby d8_54) rfl rfl ?_
        exact kt
      obtain ⟨T919, X919, e919, st919⟩ := getF X903 hx hZ hown (host := "") (Or.inl (hw _ (List.mem_of_getElem? (i := 19) rfl))) Via.refl e903 f907 (g := (mkF m 55 #[.val (.ref o), .val (.int (Int32.ofNat i)), .val (.int j)] [(.ref o), (.ref o)])) rfl rfl (own_hb hby d8_55)
      refine own_Go.of (S' := (T919.setTop (mkF m 58 #[.val (.ref o), .val (.int (Int32.ofNat i)), .val (.int j)] [(.ref re), (.ref o)]))) st919 ?_
      refine own_Go.of (S' := (T919.setTop (mkF m 60 #[.val (.ref o), .val (.int (Int32.ofNat i)), .val (.int j)] [(.ref o), (.int (2 : Int32)), (.ref re), (.ref o)]))) (fun t kt => ?_) ?_
      · show Steps p.tables e below (T919.setTop (mkF m 58 #[.val (.ref o), .val (.int (Int32.ofNat i)), .val (.int j)] [(.ref re), (.ref o)])) _
        refine XS.iconst X919.here hx rfl (own_hb hby d8_58) ?_
        refine XS.aloadN X919.here hx rfl (own_hb hby d8_59) rfl rfl ?_
        exact kt
      obtain ⟨T920, X920, e920, st920⟩ := getF X919 hx hZ hown (host := "") (Or.inl (hw _ (List.mem_of_getElem? (i := 56) rfl))) Via.refl e919 f908 (g := (mkF m 60 #[.val (.ref o), .val (.int (Int32.ofNat i)), .val (.int j)] [(.ref o), (.int (2 : Int32)), (.ref re), (.ref o)])) rfl rfl (own_hb hby d8_60)
      refine own_Go.of (S' := (T920.setTop (mkF m 63 #[.val (.ref o), .val (.int (Int32.ofNat i)), .val (.int j)] [(.int (Int32.ofNat k)), (.int (2 : Int32)), (.ref re), (.ref o)]))) st920 ?_
      refine own_Go.of (S' := (T920.setTop (mkF m 64 #[.val (.ref o), .val (.int (Int32.ofNat i)), .val (.int j)] [(.int (Int32.ofNat (2 * k))), (.ref re), (.ref o)]))) (fun t kt => ?_) ?_
      · show Steps p.tables e below (T920.setTop (mkF m 63 #[.val (.ref o), .val (.int (Int32.ofNat i)), .val (.int j)] [(.int (Int32.ofNat k)), (.int (2 : Int32)), (.ref re), (.ref o)])) _
        refine XS.imul X920.here hx rfl (own_hb hby d8_63) rfl ?_
        show Steps p.tables e below (T920.setTop (mkF m 64 #[.val (.ref o), .val (.int (Int32.ofNat i)), .val (.int j)] [(.int ((2 : Int32) * (Int32.ofNat k))), (.ref re), (.ref o)])) _
        rw [show (2 : Int32) * Int32.ofNat k = Int32.ofNat (2 * k) from (Int32.ofNat_mul 2 k).symm]
        exact kt
      obtain ⟨_, _, ⟨T921, L921, k921, n921⟩, -, X921, ⟨Lc921, hQ921, l921, y921, z921⟩, st921⟩ := Jvm.LawKit.callS X920 hx (y := (⟨"java/util/Arrays", "copyOf", "([II)[I"⟩ : MethodName)) hown (mvT hZ (hw _ (List.mem_of_getElem? (i := 84) rfl))) (mvT hZ (hw _ (List.mem_of_getElem? (i := 85) rfl))) (mvT hZ (hw _ (List.mem_of_getElem? (i := 73) rfl))) (mvT hZ (hw _ (List.mem_of_getElem? (i := 86) rfl))) (by decide) (backOf (W := 1) (rm13 l Z a0 hw [] re (2 * k) cap ge h903 n0 z917 f913 (by omega) (by omega)) hZ (hw _ (List.mem_of_getElem? (i := 86) rfl)) (hw _ (List.mem_of_getElem? (i := 73) rfl)) (by decide) (by decide)) (g := (mkF m 64 #[.val (.ref o), .val (.int (Int32.ofNat i)), .val (.int j)] [(.int (Int32.ofNat (2 * k))), (.ref re), (.ref o)])) rfl (by rw [hml]; rfl) (argsL := [(.ref re), (.int (Int32.ofNat (2 * k)))]) (rest := [(.ref o)]) (lenOf pd_1 rfl) rfl (by show 2 * 0 + _ ≤ _; exact Nat.le_of_eq rfl) (own_hb hby d8_64) (fun _ _ => ⟨rfl, e920, (by decide : 1 + 1 ≤ _), (by decide : 8 + 8 ≤ _)⟩)
      dsimp only [Pt.U, Pt.locs, Pt.cells, Pt.slots] at X921 l921 y921 z921 st921 hQ921
      subst l921 y921 z921
      obtain ⟨b921, rfl, N921q, K921, p921_0, p921_1⟩ := hQ921
      have N921 := Fr.app N903 N921q
      refine own_Go.of (S' := (T921.setTop (mkF m 67 #[.val (.ref o), .val (.int (Int32.ofNat i)), .val (.int j)] [(.ref b921), (.ref o)]))) (fun t kt => st921 t kt) ?_
      have gx922 : n0 ≤ b921 := Nat.le_trans z917 p921_0
      have ne923 : x ≠ b921 := Nat.ne_of_lt (Nat.lt_of_lt_of_le f905.lt p921_0)
      have ne924 : o ≠ b921 := Nat.ne_of_lt (Nat.lt_of_lt_of_le f906.lt p921_0)
      have ne925 : rs ≠ b921 := Nat.ne_of_lt (Nat.lt_of_lt_of_le f912.lt p921_0)
      have ne926 : re ≠ b921 := Nat.ne_of_lt (Nat.lt_of_lt_of_le f913.lt p921_0)
      have ne927 : b883 ≠ b921 := Nat.ne_of_lt (Nat.lt_of_lt_of_le f916.lt p921_0)
      have kx928 := kx904.keep K921 nin0
      have f929 := f905.keep K921
      have f930 := f906.keep K921
      have f931 := f918.keep K921 nin0
      have f932 := f907.keep K921 nin0
      have f933 := f908.keep K921 nin0
      have f934 := f909.keep K921 nin0
      have f935 := f910.keep K921 nin0
      have f936 := f911.keep K921 nin0
      have f937 := f912.keep K921 nin0
      have f938 := f913.keep K921 nin0
      have f939 := f914.keep K921 nin0
      have f940 := f915.keep K921 nin0
      have f941 := f916.keep K921 nin0
      have z942 := Nat.le_trans z917 K921.1
      obtain ⟨T943, h943, X943, e943, W943, st943⟩ := putF X921 hx hZ hown (host := "") (Or.inl (hw _ (List.mem_of_getElem? (i := 19) rfl))) Via.refl rfl f932 f930 (Or.inl (hw _ (List.mem_of_getElem? (i := 20) rfl))) (hw _ (List.mem_of_getElem? (i := 6) rfl)) (ty := (.array .int)) (by decide) rfl rfl (g := (mkF m 67 #[.val (.ref o), .val (.int (Int32.ofNat i)), .val (.int j)] [(.ref b921), (.ref o)])) rfl rfl (own_hb hby d8_67)
      refine own_Go.of (S' := (T943.setTop (mkF m 70 #[.val (.ref o), .val (.int (Int32.ofNat i)), .val (.int j)] []))) st943 ?_
      have kx944 := kx928.wr W943 hn4
      have f945 := f929.wr W943
      have f946 := f930.wr W943
      have f947 := f931.other W943 (Or.inr (slot_ne (Or.inl (hw _ (List.mem_of_getElem? (i := 18) rfl))) (Or.inl (hw _ (List.mem_of_getElem? (i := 20) rfl))) (by decide) (t := (.array .int)) (t' := (.array .int)) (by decide) (by decide)))
      have f948 := f933.other W943 (Or.inr (slot_ne (Or.inl (hw _ (List.mem_of_getElem? (i := 57) rfl))) (Or.inl (hw _ (List.mem_of_getElem? (i := 20) rfl))) (by decide) (t := .int) (t' := (.array .int)) (by decide) (by decide)))
      have f949 := f934.other W943 (Or.inr (slot_ne (Or.inl (hw _ (List.mem_of_getElem? (i := 50) rfl))) (Or.inl (hw _ (List.mem_of_getElem? (i := 20) rfl))) (by decide) (t := .int) (t' := (.array .int)) (by decide) (by decide)))
      have f950 := f935.other W943 (Or.inr (slot_ne (Or.inl (hw _ (List.mem_of_getElem? (i := 40) rfl))) (Or.inl (hw _ (List.mem_of_getElem? (i := 20) rfl))) (by decide) (t := .boolean) (t' := (.array .int)) (by decide) (by decide)))
      have f951 := f936.other W943 (Or.inr (slot_ne (Or.inl (hw _ (List.mem_of_getElem? (i := 15) rfl))) (Or.inl (hw _ (List.mem_of_getElem? (i := 20) rfl))) (by decide) (t := (.array .byte)) (t' := (.array .int)) (by decide) (by decide)))
      have f952 := f937.other W943 (Ne.symm hn1)
      have f953 := f938.other W943 (Ne.symm hn2)
      have f954 := f939.other W943 (Or.inr (slot_ne (Or.inl (hw _ (List.mem_of_getElem? (i := 69) rfl))) (Or.inl (hw _ (List.mem_of_getElem? (i := 20) rfl))) (by decide) (t := (.array .boolean)) (t' := (.array .int)) (by decide) (by decide)))
      have f955 := f940.other W943 (Or.inr (slot_ne (Or.inl (hw _ (List.mem_of_getElem? (i := 83) rfl))) (Or.inl (hw _ (List.mem_of_getElem? (i := 20) rfl))) (by decide) (t := .int) (t' := (.array .int)) (by decide) (by decide)))
      have f956 := f941.other W943 (Ne.symm ne886)
      have f957 := p921_1.other W943 (Ne.symm ne924)
      have z958 := Nat.le_trans z942 (Keep.of_wr W943).1
      have f959 : Fld Z h943 o "com/example/quayside/quayside/Row" "ends" "[I" (.ref b921) := f932.same W943
      have N943 := Fr.snoc X943 N921 hg1
      refine own_Go.of (S' := (T943.setTop (mkF m 71 #[.val (.ref o), .val (.int (Int32.ofNat i)), .val (.int j)] [(.ref o)]))) (fun t kt => ?_) ?_
      · show Steps p.tables e below (T943.setTop (mkF m 70 #[.val (.ref o), .val (.int (Int32.ofNat i)), .val (.int j)] [])) _
        refine XS.aloadN X943.here hx rfl (own_hb hby d8_70) rfl rfl ?_
        exact kt
      obtain ⟨T960, X960, e960, st960⟩ := getF X943 hx hZ hown (host := "") (Or.inl (hw _ (List.mem_of_getElem? (i := 17) rfl))) Via.refl e943 f947 (g := (mkF m 71 #[.val (.ref o), .val (.int (Int32.ofNat i)), .val (.int j)] [(.ref o)])) rfl rfl (own_hb hby d8_71)
      refine own_Go.of (S' := (T960.setTop (mkF m 74 #[.val (.ref o), .val (.int (Int32.ofNat i)), .val (.int j)] [(.ref b883)]))) st960 ?_
      refine own_Go.of (S' := (T960.setTop (mkF m 75 #[.val (.ref o), .val (.int (Int32.ofNat i)), .val (.int j)] [(.ref o), (.ref b883)]))) (fun t kt => ?_) ?_
      · show Steps p.tables e below (T960.setTop (mkF m 74 #[.val (.ref o), .val (.int (Int32.ofNat i)), .val (.int j)] [(.ref b883)])) _
        refine XS.aloadN X960.here hx rfl (own_hb hby d8_74) rfl rfl ?_
        exact kt
      obtain ⟨T961, X961, e961, st961⟩ := getF X960 hx hZ hown (host := "") (Or.inl (hw _ (List.mem_of_getElem? (i := 56) rfl))) Via.refl e960 f948 (g := (mkF m 75 #[.val (.ref o), .val (.int (Int32.ofNat i)), .val (.int j)] [(.ref o), (.ref b883)])) rfl rfl (own_hb hby d8_75)
      refine own_Go.of (S' := (T961.setTop (mkF m 78 #[.val (.ref o), .val (.int (Int32.ofNat i)), .val (.int j)] [(.int (Int32.ofNat k)), (.ref b883)]))) st961 ?_
      refine own_Go.of (S' := (T961.setTop (mkF m 79 #[.val (.ref o), .val (.int (Int32.ofNat i)), .val (.int j)] [(.int (Int32.ofNat i)), (.int (Int32.ofNat k)), (.ref b883)]))) (fun t kt => ?_) ?_
      · show Steps p.tables e below (T961.setTop (mkF m 78 #[.val (.ref o), .val (.int (Int32.ofNat i)), .val (.int j)] [(.int (Int32.ofNat k)), (.ref b883)])) _
        refine XS.iloadN X961.here hx rfl (own_hb hby d8_78) rfl ?_
        exact kt
      obtain ⟨cl962, Ar962, hin962, ub962⟩ := own_Ar.put (j := (Int32.ofNat k)) (k := k) f956 ⟨rfl, by omega⟩
      obtain ⟨T962, h962, X962, e962, W962, st962⟩ := stI X961 hx hZ e961 Ar962 (j := (Int32.ofNat k)) hin962 (g := (mkF m 79 #[.val (.ref o), .val (.int (Int32.ofNat i)), .val (.int j)] [(.int (Int32.ofNat i)), (.int (Int32.ofNat k)), (.ref b883)])) rfl rfl (own_hb hby d8_79)
      refine own_Go.of (S' := (T962.setTop (mkF m 80 #[.val (.ref o), .val (.int (Int32.ofNat i)), .val (.int j)] []))) st962 ?_
      have kx963 := kx944.wr W962 ne885
      have f964 := f945.wr W962
      have f965 := f946.wr W962
      have f966 := f947.other W962 (Or.inl ne886)
      have f967 := f959.other W962 (Or.inl ne886)
      have f968 := f948.other W962 (Or.inl ne886)
      have f969 := f949.other W962 (Or.inl ne886)
      have f970 := f950.other W962 (Or.inl ne886)
      have f971 := f951.other W962 (Or.inl ne886)
      have f972 := f952.other W962 ne887
      have f973 := f953.other W962 ne888
      have f974 := f954.other W962 (Or.inl ne886)
      have f975 := f955.other W962 (Or.inl ne886)
      have f976 := f957.other W962 (Ne.symm ne927)
      have z977 := Nat.le_trans z958 (Keep.of_wr W962).1
      have f978 : own_Ar Z h962 b883 .int (2 * k) (own_I (own_set (own_cpy gs cap) k (Int32.ofNat i))) := by rw [← own_upI]; exact ub962 rfl W962
      have N962 := Fr.snoc X962 N943 gx884
      refine own_Go.of (S' := (T962.setTop (mkF m 81 #[.val (.ref o), .val (.int (Int32.ofNat i)), .val (.int j)] [(.ref o)]))) (fun t kt => ?_) ?_
      · show Steps p.tables e below (T962.setTop (mkF m 80 #[.val (.ref o), .val (.int (Int32.ofNat i)), .val (.int j)] [])) _
        refine XS.aloadN X962.here hx rfl (own_hb hby d8_80) rfl rfl ?_
        exact kt
      obtain ⟨T979, X979, e979, st979⟩ := getF X962 hx hZ hown (host := "") (Or.inl (hw _ (List.mem_of_getElem? (i := 19) rfl))) Via.refl e962 f967 (g := (mkF m 81 #[.val (.ref o), .val (.int (Int32.ofNat i)), .val (.int j)] [(.ref o)])) rfl rfl (own_hb hby d8_81)
      refine own_Go.of (S' := (T979.setTop (mkF m 84 #[.val (.ref o), .val (.int (Int32.ofNat i)), .val (.int j)] [(.ref b921)]))) st979 ?_
      refine own_Go.of (S' := (T979.setTop (mkF m 85 #[.val (.ref o), .val (.int (Int32.ofNat i)), .val (.int j)] [(.ref o), (.ref b921)]))) (fun t kt => ?_) ?_
      · show Steps p.tables e below (T979.setTop (mkF m 84 #[.val (.ref o), .val (.int (Int32.ofNat i)), .val (.int j)] [(.ref b921)])) _
        refine XS.aloadN X979.here hx rfl (own_hb hby d8_84) rfl rfl ?_
        exact kt
      obtain ⟨T980, X980, e980, st980⟩ := getF X979 hx hZ hown (host := "") (Or.inl (hw _ (List.mem_of_getElem? (i := 56) rfl))) Via.refl e979 f968 (g := (mkF m 85 #[.val (.ref o), .val (.int (Int32.ofNat i)), .val (.int j)] [(.ref o), (.ref b921)])) rfl rfl (own_hb hby d8_85)
      refine own_Go.of (S' := (T980.setTop (mkF m 88 #[.val (.ref o), .val (.int (Int32.ofNat i)), .val (.int j)] [(.int (Int32.ofNat k)), (.ref b921)]))) st980 ?_
      refine own_Go.of (S' := (T980.setTop (mkF m 89 #[.val (.ref o), .val (.int (Int32.ofNat i)), .val (.int j)] [(.int j), (.int (Int32.ofNat k)), (.ref b921)]))) (fun t kt => ?_) ?_
      · show Steps p.tables e below (T980.setTop (mkF m 88 #[.val (.ref o), .val (.int (Int32.ofNat i)), .val (.int j)] [(.int (Int32.ofNat k)), (.ref b921)])) _
        refine XS.iloadN X980.here hx rfl (own_hb hby d8_88) rfl ?_
        exact kt
      obtain ⟨cl981, Ar981, hin981, ub981⟩ := own_Ar.put (j := (Int32.ofNat k)) (k := k) f976 ⟨rfl, by omega⟩
      obtain ⟨T981, h981, X981, e981, W981, st981⟩ := stI X980 hx hZ e980 Ar981 (j := (Int32.ofNat k)) hin981 (g := (mkF m 89 #[.val (.ref o), .val (.int (Int32.ofNat i)), .val (.int j)] [(.int j), (.int (Int32.ofNat k)), (.ref b921)])) rfl rfl (own_hb hby d8_89)
      refine own_Go.of (S' := (T981.setTop (mkF m 90 #[.val (.ref o), .val (.int (Int32.ofNat i)), .val (.int j)] []))) st981 ?_
      have kx982 := kx963.wr W981 ne923
      have f983 := f964.wr W981
      have f984 := f965.wr W981
      have f985 := f966.other W981 (Or.inl ne924)
      have f986 := f967.other W981 (Or.inl ne924)
      have f987 := f968.other W981 (Or.inl ne924)
      have f988 := f969.other W981 (Or.inl ne924)
      have f989 := f970.other W981 (Or.inl ne924)
      have f990 := f971.other W981 (Or.inl ne924)
      have f991 := f972.other W981 ne925
      have f992 := f973.other W981 ne926
      have f993 := f974.other W981 (Or.inl ne924)
      have f994 := f975.other W981 (Or.inl ne924)
      have f995 := f978.other W981 ne927
      have z996 := Nat.le_trans z977 (Keep.of_wr W981).1
      have f997 : own_Ar Z h981 b921 .int (2 * k) (own_I (own_set (own_cpy ge cap) k j)) := by rw [← own_upI]; exact ub981 rfl W981
      have N981 := Fr.snoc X981 N962 gx922
      refine own_Go.of (S' := (T981.setTop (mkF m 92 #[.val (.ref o), .val (.int (Int32.ofNat i)), .val (.int j)] [(.ref o), (.ref o)]))) (fun t kt => ?_) ?_
      · show Steps p.tables e below (T981.setTop (mkF m 90 #[.val (.ref o), .val (.int (Int32.ofNat i)), .val (.int j)] [])) _
        refine XS.aloadN X981.here hx rfl (own_hb hby d8_90) rfl rfl ?_
        refine XS.dup X981.here hx rfl (own_hb hby d8_91) rfl rfl ?_
        exact kt
      obtain ⟨T998, X998, e998, st998⟩ := getF X981 hx hZ hown (host := "") (Or.inl (hw _ (List.mem_of_getElem? (i := 56) rfl))) Via.refl e981 f987 (g := (mkF m 92 #[.val (.ref o), .val (.int (Int32.ofNat i)), .val (.int j)] [(.ref o), (.ref o)])) rfl rfl (own_hb hby d8_92)
      refine own_Go.of (S' := (T998.setTop (mkF m 95 #[.val (.ref o), .val (.int (Int32.ofNat i)), .val (.int j)] [(.int (Int32.ofNat k)), (.ref o)]))) st998 ?_
      refine own_Go.of (S' := (T998.setTop (mkF m 97 #[.val (.ref o), .val (.int (Int32.ofNat i)), .val (.int j)] [(.int (Int32.ofNat (k + 1))), (.ref o)]))) (fun t kt => ?_) ?_
      · show Steps p.tables e below (T998.setTop (mkF m 95 #[.val (.ref o), .val (.int (Int32.ofNat i)), .val (.int j)] [(.int (Int32.ofNat k)), (.ref o)])) _
        refine XS.iconst X998.here hx rfl (own_hb hby d8_95) ?_
        refine XS.iadd X998.here hx rfl (own_hb hby d8_96) rfl ?_
        show Steps p.tables e below (T998.setTop (mkF m 97 #[.val (.ref o), .val (.int (Int32.ofNat i)), .val (.int j)] [(.int ((Int32.ofNat k) + (1 : Int32))), (.ref o)])) _
        rw [show Int32.ofNat k + (1 : Int32) = Int32.ofNat (k + 1) from own_addN k 1]
        exact kt
      obtain ⟨T999, h999, X999, e999, W999, st999⟩ := putF X998 hx hZ hown (host := "") (Or.inl (hw _ (List.mem_of_getElem? (i := 56) rfl))) Via.refl e998 f987 f984 (Or.inl (hw _ (List.mem_of_getElem? (i := 57) rfl))) (hw _ (List.mem_of_getElem? (i := 6) rfl)) (ty := .int) (by decide) rfl rfl (g := (mkF m 97 #[.val (.ref o), .val (.int (Int32.ofNat i)), .val (.int j)] [(.int (Int32.ofNat (k + 1))), (.ref o)])) rfl rfl (own_hb hby d8_97)
      refine own_Go.of (S' := (T999.setTop (mkF m 100 #[.val (.ref o), .val (.int (Int32.ofNat i)), .val (.int j)] []))) st999 ?_
      have kx1000 := kx982.wr W999 hn4
      have f1001 := f983.wr W999
      have f1002 := f984.wr W999
      have f1003 := f985.other W999 (Or.inr (slot_ne (Or.inl (hw _ (List.mem_of_getElem? (i := 18) rfl))) (Or.inl (hw _ (List.mem_of_getElem? (i := 57) rfl))) (by decide) (t := (.array .int)) (t' := .int) (by decide) (by decide)))
      have f1004 := f986.other W999 (Or.inr (slot_ne (Or.inl (hw _ (List.mem_of_getElem? (i := 20) rfl))) (Or.inl (hw _ (List.mem_of_getElem? (i := 57) rfl))) (by decide) (t := (.array .int)) (t' := .int) (by decide) (by decide)))
      have f1005 := f988.other W999 (Or.inr (slot_ne (Or.inl (hw _ (List.mem_of_getElem? (i := 50) rfl))) (Or.inl (hw _ (List.mem_of_getElem? (i := 57) rfl))) (by decide) (t := .int) (t' := .int) (by decide) (by decide)))
      have f1006 := f989.other W999 (Or.inr (slot_ne (Or.inl (hw _ (List.mem_of_getElem? (i := 40) rfl))) (Or.inl (hw _ (List.mem_of_getElem? (i := 57) rfl))) (by decide) (t := .boolean) (t' := .int) (by decide) (by decide)))
      have f1007 := f990.other W999 (Or.inr (slot_ne (Or.inl (hw _ (List.mem_of_getElem? (i := 15) rfl))) (Or.inl (hw _ (List.mem_of_getElem? (i := 57) rfl))) (by decide) (t := (.array .byte)) (t' := .int) (by decide) (by decide)))
      have f1008 := f991.other W999 (Ne.symm hn1)
      have f1009 := f992.other W999 (Ne.symm hn2)
      have f1010 := f993.other W999 (Or.inr (slot_ne (Or.inl (hw _ (List.mem_of_getElem? (i := 69) rfl))) (Or.inl (hw _ (List.mem_of_getElem? (i := 57) rfl))) (by decide) (t := (.array .boolean)) (t' := .int) (by decide) (by decide)))
      have f1011 := f994.other W999 (Or.inr (slot_ne (Or.inl (hw _ (List.mem_of_getElem? (i := 83) rfl))) (Or.inl (hw _ (List.mem_of_getElem? (i := 57) rfl))) (by decide) (t := .int) (t' := .int) (by decide) (by decide)))
      have f1012 := f995.other W999 (Ne.symm ne886)
      have f1013 := f997.other W999 (Ne.symm ne924)
      have z1014 := Nat.le_trans z996 (Keep.of_wr W999).1
      have f1015 : Fld Z h999 o "com/example/quayside/quayside/Row" "size" "I" (.int (Int32.ofNat (k + 1))) := f987.same W999
      have N999 := Fr.snoc X999 N981 hg1
      refine own_Go.of (S' := (T999.setTop (mkF m 102 #[.val (.ref o), .val (.int (Int32.ofNat i)), .val (.int j)] [(.ref o), (.ref o)]))) (fun t kt => ?_) ?_
      · show Steps p.tables e below (T999.setTop (mkF m 100 #[.val (.ref o), .val (.int (Int32.ofNat i)), .val (.int j)] [])) _
        refine XS.aloadN X999.here hx rfl (own_hb hby d8_100) rfl rfl ?_
        refine XS.aloadN X999.here hx rfl (own_hb hby d8_101) rfl rfl ?_
        exact kt
      obtain ⟨T1016, X1016, e1016, st1016⟩ := getF X999 hx hZ hown (host := "") (Or.inl (hw _ (List.mem_of_getElem? (i := 49) rfl))) Via.refl e999 f1005 (g := (mkF m 102 #[.val (.ref o), .val (.int (Int32.ofNat i)), .val (.int j)] [(.ref o), (.ref o)])) rfl rfl (own_hb hby d8_102)
      refine own_Go.of (S' := (T1016.setTop (mkF m 105 #[.val (.ref o), .val (.int (Int32.ofNat i)), .val (.int j)] [(.int r), (.ref o)]))) st1016 ?_
      refine own_Go.of (S' := (T1016.setTop (mkF m 106 #[.val (.ref o), .val (.int (Int32.ofNat i)), .val (.int j)] [(.int j), (.int r), (.ref o)]))) (fun t kt => ?_) ?_
      · show Steps p.tables e below (T1016.setTop (mkF m 105 #[.val (.ref o), .val (.int (Int32.ofNat i)), .val (.int j)] [(.int r), (.ref o)])) _
        refine XS.iloadN X1016.here hx rfl (own_hb hby d8_105) rfl ?_
        exact kt
      obtain ⟨_, _, ⟨T1017, L1017, k1017, n1017⟩, -, X1017, ⟨Lc1017, hQ1017, l1017, y1017, z1017⟩, st1017⟩ := Jvm.LawKit.callS X1016 hx (y := (⟨"java/lang/Math", "max", "(II)I"⟩ : MethodName)) hown (mvT hZ (hw _ (List.mem_of_getElem? (i := 58) rfl))) (mvT hZ (hw _ (List.mem_of_getElem? (i := 59) rfl))) (mvT hZ (hw _ (List.mem_of_getElem? (i := 60) rfl))) (mvT hZ (hw _ (List.mem_of_getElem? (i := 61) rfl))) (by decide) (backOf (W := 1) (rm9 l Z a0 hw [] r j h999 n0 z1014 ) hZ (hw _ (List.mem_of_getElem? (i := 61) rfl)) (hw _ (List.mem_of_getElem? (i := 60) rfl)) (by decide) (by decide)) (g := (mkF m 106 #[.val (.ref o), .val (.int (Int32.ofNat i)), .val (.int j)] [(.int j), (.int r), (.ref o)])) rfl (by rw [hml]; rfl) (argsL := [(.int r), (.int j)]) (rest := [(.ref o)]) (lenOf pd_0 rfl) rfl (by show 2 * 0 + _ ≤ _; exact Nat.le_of_eq rfl) (own_hb hby d8_106) (fun _ _ => ⟨rfl, e1016, (by decide : 2 + 0 ≤ _), (by decide : 16 + 0 ≤ _)⟩)
      dsimp only [Pt.U, Pt.locs, Pt.cells, Pt.slots] at X1017 l1017 y1017 z1017 st1017 hQ1017
      subst l1017 y1017 z1017
      obtain ⟨rfl, N1017q, hh1017⟩ := hQ1017
      have N1017 := Fr.app N999 N1017q
      refine own_Go.of (S' := (T1017.setTop (mkF m 109 #[.val (.ref o), .val (.int (Int32.ofNat i)), .val (.int j)] [(.int (own_maxI r j)), (.ref o)]))) (fun t kt => st1017 t kt) ?_
      obtain ⟨T1018, h1018, X1018, e1018, W1018, st1018⟩ := putF X1017 hx hZ hown (host := "") (Or.inl (hw _ (List.mem_of_getElem? (i := 49) rfl))) Via.refl hh1017 f1005 f1002 (Or.inl (hw _ (List.mem_of_getElem? (i := 50) rfl))) (hw _ (List.mem_of_getElem? (i := 6) rfl)) (ty := .int) (by decide) rfl rfl (g := (mkF m 109 #[.val (.ref o), .val (.int (Int32.ofNat i)), .val (.int j)] [(.int (own_maxI r j)), (.ref o)])) rfl rfl (own_hb hby d8_109)
      refine own_Go.of (S' := (T1018.setTop (mkF m 112 #[.val (.ref o), .val (.int (Int32.ofNat i)), .val (.int j)] []))) st1018 ?_
      have kx1019 := kx1000.wr W1018 hn4
      have f1020 := f1001.wr W1018
      have f1021 := f1002.wr W1018
      have f1022 := f1003.other W1018 (Or.inr (slot_ne (Or.inl (hw _ (List.mem_of_getElem? (i := 18) rfl))) (Or.inl (hw _ (List.mem_of_getElem? (i := 50) rfl))) (by decide) (t := (.array .int)) (t' := .int) (by decide) (by decide)))
      have f1023 := f1004.other W1018 (Or.inr (slot_ne (Or.inl (hw _ (List.mem_of_getElem? (i := 20) rfl))) (Or.inl (hw _ (List.mem_of_getElem? (i := 50) rfl))) (by decide) (t := (.array .int)) (t' := .int) (by decide) (by decide)))
      have f1024 := f1015.other W1018 (Or.inr (slot_ne (Or.inl (hw _ (List.mem_of_getElem? (i := 57) rfl))) (Or.inl (hw _ (List.mem_of_getElem? (i := 50) rfl))) (by decide) (t := .int) (t' := .int) (by decide) (by decide)))
      have f1025 := f1006.other W1018 (Or.inr (slot_ne (Or.inl (hw _ (List.mem_of_getElem? (i := 40) rfl))) (Or.inl (hw _ (List.mem_of_getElem? (i := 50) rfl))) (by decide) (t := .boolean) (t' := .int) (by decide) (by decide)))
      have f1026 := f1007.other W1018 (Or.inr (slot_ne (Or.inl (hw _ (List.mem_of_getElem? (i := 15) rfl))) (Or.inl (hw _ (List.mem_of_getElem? (i := 50) rfl))) (by decide) (t := (.array .byte)) (t' := .int) (by decide) (by decide)))
      have f1027 := f1008.other W1018 (Ne.symm hn1)
      have f1028 := f1009.other W1018 (Ne.symm hn2)
      have f1029 := f1010.other W1018 (Or.inr (slot_ne (Or.inl (hw _ (List.mem_of_getElem? (i := 69) rfl))) (Or.inl (hw _ (List.mem_of_getElem? (i := 50) rfl))) (by decide) (t := (.array .boolean)) (t' := .int) (by decide) (by decide)))
      have f1030 := f1011.other W1018 (Or.inr (slot_ne (Or.inl (hw _ (List.mem_of_getElem? (i := 83) rfl))) (Or.inl (hw _ (List.mem_of_getElem? (i := 50) rfl))) (by decide) (t := .int) (t' := .int) (by decide) (by decide)))
      have f1031 := f1012.other W1018 (Ne.symm ne886)
      have f1032 := f1013.other W1018 (Ne.symm ne924)
      have z1033 := Nat.le_trans z1014 (Keep.of_wr W1018).1
      have f1034 : Fld Z h1018 o "com/example/quayside/quayside/Row" "reach" "I" (.int (own_maxI r j)) := f1005.same W1018
      have N1018 := Fr.snoc X1018 N1017 hg1
      refine own_Go.of (S' := (T1018.setTop (mkF m 114 #[.val (.ref o), .val (.int (Int32.ofNat i)), .val (.int j)] [(.int (0 : Int32)), (.ref o)]))) (fun t kt => ?_) ?_
      · show Steps p.tables e below (T1018.setTop (mkF m 112 #[.val (.ref o), .val (.int (Int32.ofNat i)), .val (.int j)] [])) _
        refine XS.aloadN X1018.here hx rfl (own_hb hby d8_112) rfl rfl ?_
        refine XS.iconst X1018.here hx rfl (own_hb hby d8_113) ?_
        exact kt
      obtain ⟨T1035, h1035, X1035, e1035, W1035, st1035⟩ := putFN X1018 hx hZ hown (hw _ (List.mem_of_getElem? (i := 39) rfl)) Via.refl e1018 f1025 f1021 (Or.inl (hw _ (List.mem_of_getElem? (i := 40) rfl))) (hw _ (List.mem_of_getElem? (i := 6) rfl)) (ty := .boolean) (v' := (.int (nar .boolean (0 : Int32)))) (by decide) rfl (fits_nar_bool _) (g := (mkF m 114 #[.val (.ref o), .val (.int (Int32.ofNat i)), .val (.int j)] [(.int (0 : Int32)), (.ref o)])) rfl rfl (own_hb hby d8_114)
      refine own_Go.of (S' := (T1035.setTop (mkF m 117 #[.val (.ref o), .val (.int (Int32.ofNat i)), .val (.int j)] []))) st1035 ?_
      have kx1036 := kx1019.wr W1035 hn4
      have f1037 := f1020.wr W1035
      have f1038 := f1021.wr W1035
      have f1039 := f1022.other W1035 (Or.inr (slot_ne (Or.inl (hw _ (List.mem_of_getElem? (i := 18) rfl))) (Or.inl (hw _ (List.mem_of_getElem? (i := 40) rfl))) (by decide) (t := (.array .int)) (t' := .boolean) (by decide) (by decide)))
      have f1040 := f1023.other W1035 (Or.inr (slot_ne (Or.inl (hw _ (List.mem_of_getElem? (i := 20) rfl))) (Or.inl (hw _ (List.mem_of_getElem? (i := 40) rfl))) (by decide) (t := (.array .int)) (t' := .boolean) (by decide) (by decide)))
      have f1041 := f1024.other W1035 (Or.inr (slot_ne (Or.inl (hw _ (List.mem_of_getElem? (i := 57) rfl))) (Or.inl (hw _ (List.mem_of_getElem? (i := 40) rfl))) (by decide) (t := .int) (t' := .boolean) (by decide) (by decide)))
      have f1042 := f1034.other W1035 (Or.inr (slot_ne (Or.inl (hw _ (List.mem_of_getElem? (i := 50) rfl))) (Or.inl (hw _ (List.mem_of_getElem? (i := 40) rfl))) (by decide) (t := .int) (t' := .boolean) (by decide) (by decide)))
      have f1043 := f1026.other W1035 (Or.inr (slot_ne (Or.inl (hw _ (List.mem_of_getElem? (i := 15) rfl))) (Or.inl (hw _ (List.mem_of_getElem? (i := 40) rfl))) (by decide) (t := (.array .byte)) (t' := .boolean) (by decide) (by decide)))
      have f1044 := f1027.other W1035 (Ne.symm hn1)
      have f1045 := f1028.other W1035 (Ne.symm hn2)
      have f1046 := f1029.other W1035 (Or.inr (slot_ne (Or.inl (hw _ (List.mem_of_getElem? (i := 69) rfl))) (Or.inl (hw _ (List.mem_of_getElem? (i := 40) rfl))) (by decide) (t := (.array .boolean)) (t' := .boolean) (by decide) (by decide)))
      have f1047 := f1030.other W1035 (Or.inr (slot_ne (Or.inl (hw _ (List.mem_of_getElem? (i := 83) rfl))) (Or.inl (hw _ (List.mem_of_getElem? (i := 40) rfl))) (by decide) (t := .int) (t' := .boolean) (by decide) (by decide)))
      have f1048 := f1031.other W1035 (Ne.symm ne886)
      have f1049 := f1032.other W1035 (Ne.symm ne924)
      have z1050 := Nat.le_trans z1033 (Keep.of_wr W1035).1
      have f1051 : Fld Z h1035 o "com/example/quayside/quayside/Row" "text" "Z" (.int (nar .boolean (0 : Int32))) := f1025.same W1035
      have N1035 := Fr.snoc X1035 N1018 hg1
      have f1052 : Fld Z h1035 o "com/example/quayside/quayside/Row" "text" "Z" (.int (0 : Int32)) := f1051
      exact own_retV X1035 hx hlk hret (own_hb hby d8_117) e1035 ⟨(2 * k), rfl, N1035, kx1036, ⟨b883, b921, (own_set (own_cpy gs cap) k (Int32.ofNat i)), (own_set (own_cpy ge cap) k j), (0 : Int32), (own_maxI r j), f1038, f1039, f1040, f1041, f1042, f1052, f1043, f1048, f1049, hg1, gx884, gx922, ne886, ne924, ne927, hn4, ne885, ne923, (by omega), (by omega), ⟨own_dB (by omega) hge.1, own_Rch.add hge.2 (own_nneg hi hij)⟩, Or.inl ⟨f1046, f1047⟩⟩⟩ (by decide) (by decide)
  · skip
    by_cases hkk : k < cap
    · skip
      refine own_Go.of (S' := (T0.setTop (mkF m 25 #[.val (.ref o), .val (.int (Int32.ofNat i)), .val (.int j)] [(.ref o)]))) (fun t kt => ?_) ?_
      · show Steps p.tables e below (T0.setTop (mkF m 0 #[.val (.ref o), .val (.int (Int32.ofNat i)), .val (.int j)] [])) _
        refine XS.iloadN X0.here hx rfl (own_hb hby d8_0) rfl ?_
        refine XS.ifNo X0.here hx rfl (own_hb hby d8_1) rfl ((if0 _ _).trans (flt (fun q => by have h2 := (own_ltN (b := 0) hi (by decide)).mp q; omega)).1) ?_
        refine XS.iloadN X0.here hx rfl (own_hb hby d8_4) rfl ?_
        refine XS.iloadN X0.here hx rfl (own_hb hby d8_5) rfl ?_
        show Steps p.tables e below (T0.setTop (mkF m 6 #[.val (.ref o), .val (.int (Int32.ofNat i)), .val (.int j)] [(.int (Int32.ofNat i)), (.int j)])) _
        refine XS.icmpYes X0.here hx rfl (pc0 := 6) (pc' := 24) rfl (own_hb hby d8_6) rfl (flt hij).2.1 (by decide) (by decide) ?_
        refine XS.aloadN X0.here hx rfl (own_hb hby d8_24) rfl rfl ?_
        exact kt
      obtain ⟨T1053, X1053, e1053, st1053⟩ := getF X0 hx hZ hown (host := "") (Or.inl (hw _ (List.mem_of_getElem? (i := 56) rfl))) Via.refl e0 hF3 (g := (mkF m 25 #[.val (.ref o), .val (.int (Int32.ofNat i)), .val (.int j)] [(.ref o)])) rfl rfl (own_hb hby d8_25)
      refine own_Go.of (S' := (T1053.setTop (mkF m 28 #[.val (.ref o), .val (.int (Int32.ofNat i)), .val (.int j)] [(.int (Int32.ofNat k))]))) st1053 ?_
      refine own_Go.of (S' := (T1053.setTop (mkF m 29 #[.val (.ref o), .val (.int (Int32.ofNat i)), .val (.int j)] [(.ref o), (.int (Int32.ofNat k))]))) (fun t kt => ?_) ?_
      · show Steps p.tables e below (T1053.setTop (mkF m 28 #[.val (.ref o), .val (.int (Int32.ofNat i)), .val (.int j)] [(.int (Int32.ofNat k))])) _
        refine XS.aloadN X1053.here hx rfl (own_hb hby d8_28) rfl rfl ?_
        exact kt
      obtain ⟨T1054, X1054, e1054, st1054⟩ := getF X1053 hx hZ hown (host := "") (Or.inl (hw _ (List.mem_of_getElem? (i := 17) rfl))) Via.refl e1053 hF1 (g := (mkF m 29 #[.val (.ref o), .val (.int (Int32.ofNat i)), .val (.int j)] [(.ref o), (.int (Int32.ofNat k))])) rfl rfl (own_hb hby d8_29)
      refine own_Go.of (S' := (T1054.setTop (mkF m 32 #[.val (.ref o), .val (.int (Int32.ofNat i)), .val (.int j)] [(.ref rs), (.int (Int32.ofNat k))]))) st1054 ?_
      obtain ⟨cl1055, Ar1055, hln1055⟩ := own_Ar.len hA1
      refine own_Go.of (S' := (T1054.setTop (mkF m 71 #[.val (.ref o), .val (.int (Int32.ofNat i)), .val (.int j)] [(.ref o)]))) (fun t kt => ?_) ?_
      · show Steps p.tables e below (T1054.setTop (mkF m 32 #[.val (.ref o), .val (.int (Int32.ofNat i)), .val (.int j)] [(.ref rs), (.int (Int32.ofNat k))])) _
        refine X1054.arraylength hx (by rw [e1054]; exact Ar1055.1) (State.isArrayOf_alike hZ.alike Ar1055.2.1) (g := (mkF m 32 #[.val (.ref o), .val (.int (Int32.ofNat i)), .val (.int j)] [(.ref rs), (.int (Int32.ofNat k))])) rfl rfl (own_hb hby d8_32) _ ?_
        rw [hln1055]
        refine XS.icmpYes X1054.here hx rfl (pc0 := 33) (pc' := 70) rfl (own_hb hby d8_33) rfl (feq (fun q => by have h2 := (own_eqN (by omega) (by omega)).mp q; omega)).2 (by decide) (by decide) ?_
        refine XS.aloadN X1054.here hx rfl (own_hb hby d8_70) rfl rfl ?_
        exact kt
      obtain ⟨T1056, X1056, e1056, st1056⟩ := getF X1054 hx hZ hown (host := "") (Or.inl (hw _ (List.mem_of_getElem? (i := 17) rfl))) Via.refl e1054 hF1 (g := (mkF m 71 #[.val (.ref o), .val (.int (Int32.ofNat i)), .val (.int j)] [(.ref o)])) rfl rfl (own_hb hby d8_71)
      refine own_Go.of (S' := (T1056.setTop (mkF m 74 #[.val (.ref o), .val (.int (Int32.ofNat i)), .val (.int j)] [(.ref rs)]))) st1056 ?_
      refine own_Go.of (S' := (T1056.setTop (mkF m 75 #[.val (.ref o), .val (.int (Int32.ofNat i)), .val (.int j)] [(.ref o), (.ref rs)]))) (fun t kt => ?_) ?_
      · show Steps p.tables e below (T1056.setTop (mkF m 74 #[.val (.ref o), .val (.int (Int32.ofNat i)), .val (.int j)] [(.ref rs)])) _
        refine XS.aloadN X1056.here hx rfl (own_hb hby d8_74) rfl rfl ?_
        exact kt
      obtain ⟨T1057, X1057, e1057, st1057⟩ := getF X1056 hx hZ hown (host := "") (Or.inl (hw _ (List.mem_of_getElem? (i := 56) rfl))) Via.refl e1056 hF3 (g := (mkF m 75 #[.val (.ref o), .val (.int (Int32.ofNat i)), .val (.int j)] [(.ref o), (.ref rs)])) rfl rfl (own_hb hby d8_75)
      refine own_Go.of (S' := (T1057.setTop (mkF m 78 #[.val (.ref o), .val (.int (Int32.ofNat i)), .val (.int j)] [(.int (Int32.ofNat k)), (.ref rs)]))) st1057 ?_
      refine own_Go.of (S' := (T1057.setTop (mkF m 79 #[.val (.ref o), .val (.int (Int32.ofNat i)), .val (.int j)] [(.int (Int32.ofNat i)), (.int (Int32.ofNat k)), (.ref rs)]))) (fun t kt => ?_) ?_
      · show Steps p.tables e below (T1057.setTop (mkF m 78 #[.val (.ref o), .val (.int (Int32.ofNat i)), .val (.int j)] [(.int (Int32.ofNat k)), (.ref rs)])) _
        refine XS.iloadN X1057.here hx rfl (own_hb hby d8_78) rfl ?_
        exact kt
      obtain ⟨cl1058, Ar1058, hin1058, ub1058⟩ := own_Ar.put (j := (Int32.ofNat k)) (k := k) hA1 ⟨rfl, by omega⟩
      obtain ⟨T1058, h1058, X1058, e1058, W1058, st1058⟩ := stI X1057 hx hZ e1057 Ar1058 (j := (Int32.ofNat k)) hin1058 (g := (mkF m 79 #[.val (.ref o), .val (.int (Int32.ofNat i)), .val (.int j)] [(.int (Int32.ofNat i)), (.int (Int32.ofNat k)), (.ref rs)])) rfl rfl (own_hb hby d8_79)
      refine own_Go.of (S' := (T1058.setTop (mkF m 80 #[.val (.ref o), .val (.int (Int32.ofNat i)), .val (.int j)] []))) st1058 ?_
      have kx1059 := kx0.wr W1058 hn5
      have f1060 := pr4.wr W1058
      have f1061 := hE.wr W1058
      have f1062 := hF1.other W1058 (Or.inl hn1)
      have f1063 := hF2.other W1058 (Or.inl hn1)
      have f1064 := hF3.other W1058 (Or.inl hn1)
      have f1065 := hF4.other W1058 (Or.inl hn1)
      have f1066 := hF5.other W1058 (Or.inl hn1)
      have f1067 := hF6.other W1058 (Or.inl hn1)
      have f1068 := hA2.other W1058 (Ne.symm hn3)
      have f1069 := hm1.other W1058 (Or.inl hn1)
      have f1070 := hm2.other W1058 (Or.inl hn1)
      have f1071 := hA3.other W1058 (Ne.symm hn8)
      have z1072 := Nat.le_trans Z0 (Keep.of_wr W1058).1
      have f1073 : own_Ar Z h1058 rs .int cap (own_I (own_set gs k (Int32.ofNat i))) := by rw [← own_upI]; exact ub1058 rfl W1058
      have N1058 := Fr.snoc X1058 N0 hg2
      refine own_Go.of (S' := (T1058.setTop (mkF m 81 #[.val (.ref o), .val (.int (Int32.ofNat i)), .val (.int j)] [(.ref o)]))) (fun t kt => ?_) ?_
      · show Steps p.tables e below (T1058.setTop (mkF m 80 #[.val (.ref o), .val (.int (Int32.ofNat i)), .val (.int j)] [])) _
        refine XS.aloadN X1058.here hx rfl (own_hb hby d8_80) rfl rfl ?_
        exact kt
      obtain ⟨T1074, X1074, e1074, st1074⟩ := getF X1058 hx hZ hown (host := "") (Or.inl (hw _ (List.mem_of_getElem? (i := 19) rfl))) Via.refl e1058 f1063 (g := (mkF m 81 #[.val (.ref o), .val (.int (Int32.ofNat i)), .val (.int j)] [(.ref o)])) rfl rfl (own_hb hby d8_81)
      refine own_Go.of (S' := (T1074.setTop (mkF m 84 #[.val (.ref o), .val (.int (Int32.ofNat i)), .val (.int j)] [(.ref re)]))) st1074 ?_
      refine own_Go.of (S' := (T1074.setTop (mkF m 85 #[.val (.ref o), .val (.int (Int32.ofNat i)), .val (.int j)] [(.ref o), (.ref re)]))) (fun t kt => ?_) ?_
      · show Steps p.tables e below (T1074.setTop (mkF m 84 #[.val (.ref o), .val (.int (Int32.ofNat i)), .val (.int j)] [(.ref re)])) _
        refine XS.aloadN X1074.here hx rfl (own_hb hby d8_84) rfl rfl ?_
        exact kt
      obtain ⟨T1075, X1075, e1075, st1075⟩ := getF X1074 hx hZ hown (host := "") (Or.inl (hw _ (List.mem_of_getElem? (i := 56) rfl))) Via.refl e1074 f1064 (g := (mkF m 85 #[.val (.ref o), .val (.int (Int32.ofNat i)), .val (.int j)] [(.ref o), (.ref re)])) rfl rfl (own_hb hby d8_85)
      refine own_Go.of (S' := (T1075.setTop (mkF m 88 #[.val (.ref o), .val (.int (Int32.ofNat i)), .val (.int j)] [(.int (Int32.ofNat k)), (.ref re)]))) st1075 ?_
      refine own_Go.of (S' := (T1075.setTop (mkF m 89 #[.val (.ref o), .val (.int (Int32.ofNat i)), .val (.int j)] [(.int j), (.int (Int32.ofNat k)), (.ref re)]))) (fun t kt => ?_) ?_
      · show Steps p.tables e below (T1075.setTop (mkF m 88 #[.val (.ref o), .val (.int (Int32.ofNat i)), .val (.int j)] [(.int (Int32.ofNat k)), (.ref re)])) _
        refine XS.iloadN X1075.here hx rfl (own_hb hby d8_88) rfl ?_
        exact kt
      obtain ⟨cl1076, Ar1076, hin1076, ub1076⟩ := own_Ar.put (j := (Int32.ofNat k)) (k := k) f1068 ⟨rfl, by omega⟩
      obtain ⟨T1076, h1076, X1076, e1076, W1076, st1076⟩ := stI X1075 hx hZ e1075 Ar1076 (j := (Int32.ofNat k)) hin1076 (g := (mkF m 89 #[.val (.ref o), .val (.int (Int32.ofNat i)), .val (.int j)] [(.int j), (.int (Int32.ofNat k)), (.ref re)])) rfl rfl (own_hb hby d8_89)
      refine own_Go.of (S' := (T1076.setTop (mkF m 90 #[.val (.ref o), .val (.int (Int32.ofNat i)), .val (.int j)] []))) st1076 ?_
      have kx1077 := kx1059.wr W1076 hn6
      have f1078 := f1060.wr W1076
      have f1079 := f1061.wr W1076
      have f1080 := f1062.other W1076 (Or.inl hn2)
      have f1081 := f1063.other W1076 (Or.inl hn2)
      have f1082 := f1064.other W1076 (Or.inl hn2)
      have f1083 := f1065.other W1076 (Or.inl hn2)
      have f1084 := f1066.other W1076 (Or.inl hn2)
      have f1085 := f1067.other W1076 (Or.inl hn2)
      have f1086 := f1073.other W1076 hn3
      have f1087 := f1069.other W1076 (Or.inl hn2)
      have f1088 := f1070.other W1076 (Or.inl hn2)
      have f1089 := f1071.other W1076 (Ne.symm hn9)
      have z1090 := Nat.le_trans z1072 (Keep.of_wr W1076).1
      have f1091 : own_Ar Z h1076 re .int cap (own_I (own_set ge k j)) := by rw [← own_upI]; exact ub1076 rfl W1076
      have N1076 := Fr.snoc X1076 N1058 hg3
      refine own_Go.of (S' := (T1076.setTop (mkF m 92 #[.val (.ref o), .val (.int (Int32.ofNat i)), .val (.int j)] [(.ref o), (.ref o)]))) (fun t kt => ?_) ?_
      · show Steps p.tables e below (T1076.setTop (mkF m 90 #[.val (.ref o), .val (.int (Int32.ofNat i)), .val (.int j)] [])) _
        refine XS.aloadN X1076.here hx rfl (own_hb hby d8_90) rfl rfl ?_
        refine XS.dup X1076.here hx rfl (own_hb hby d8_91) rfl rfl ?_
        exact kt
      obtain ⟨T1092, X1092, e1092, st1092⟩ := getF X1076 hx hZ hown (host := "") (Or.inl (hw _ (List.mem_of_getElem? (i := 56) rfl))) Via.refl e1076 f1082 (g := (mkF m 92 #[.val (.ref o), .val (.int (Int32.ofNat i)), .val (.int j)] [(.ref o), (.ref o)])) rfl rfl (own_hb hby d8_92)
      refine own_Go.of (S' := (T1092.setTop (mkF m 95 #[.val (.ref o), .val (.int (Int32.ofNat i)), .val (.int j)] [(.int (Int32.ofNat k)), (.ref o)]))) st1092 ?_
      refine own_Go.of (S' := (T1092.setTop (mkF m 97 #[.val (.ref o), .val (.int (Int32.ofNat i)), .val (.int j)] [(.int (Int32.ofNat (k + 1))), (.ref o)]))) (fun t kt => ?_) ?_
      · show Steps p.tables e below (T1092.setTop (mkF m 95 #[.val (.ref o), .val (.int (Int32.ofNat i)), .val (.int j)] [(.int (Int32.ofNat k)), (.ref o)])) _
        refine XS.iconst X1092.here hx rfl (own_hb hby d8_95) ?_
        refine XS.iadd X1092.here hx rfl (own_hb hby d8_96) rfl ?_
        show Steps p.tables e below (T1092.setTop (mkF m 97 #[.val (.ref o), .val (.int (Int32.ofNat i)), .val (.int j)] [(.int ((Int32.ofNat k) + (1 : Int32))), (.ref o)])) _
        rw [show Int32.ofNat k + (1 : Int32) = Int32.ofNat (k + 1) from own_addN k 1]
        exact kt
      obtain ⟨T1093, h1093, X1093, e1093, W1093, st1093⟩ := putF X1092 hx hZ hown (host := "") (Or.inl (hw _ (List.mem_of_getElem? (i := 56) rfl))) Via.refl e1092 f1082 f1079 (Or.inl (hw _ (List.mem_of_getElem? (i := 57) rfl))) (hw _ (List.mem_of_getElem? (i := 6) rfl)) (ty := .int) (by decide) rfl rfl (g := (mkF m 97 #[.val (.ref o), .val (.int (Int32.ofNat i)), .val (.int j)] [(.int (Int32.ofNat (k + 1))), (.ref o)])) rfl rfl (own_hb hby d8_97)
      refine own_Go.of (S' := (T1093.setTop (mkF m 100 #[.val (.ref o), .val (.int (Int32.ofNat i)), .val (.int j)] []))) st1093 ?_
      have kx1094 := kx1077.wr W1093 hn4
      have f1095 := f1078.wr W1093
      have f1096 := f1079.wr W1093
      have f1097 := f1080.other W1093 (Or.inr (slot_ne (Or.inl (hw _ (List.mem_of_getElem? (i := 18) rfl))) (Or.inl (hw _ (List.mem_of_getElem? (i := 57) rfl))) (by decide) (t := (.array .int)) (t' := .int) (by decide) (by decide)))
      have f1098 := f1081.other W1093 (Or.inr (slot_ne (Or.inl (hw _ (List.mem_of_getElem? (i := 20) rfl))) (Or.inl (hw _ (List.mem_of_getElem? (i := 57) rfl))) (by decide) (t := (.array .int)) (t' := .int) (by decide) (by decide)))
      have f1099 := f1083.other W1093 (Or.inr (slot_ne (Or.inl (hw _ (List.mem_of_getElem? (i := 50) rfl))) (Or.inl (hw _ (List.mem_of_getElem? (i := 57) rfl))) (by decide) (t := .int) (t' := .int) (by decide) (by decide)))
      have f1100 := f1084.other W1093 (Or.inr (slot_ne (Or.inl (hw _ (List.mem_of_getElem? (i := 40) rfl))) (Or.inl (hw _ (List.mem_of_getElem? (i := 57) rfl))) (by decide) (t := .boolean) (t' := .int) (by decide) (by decide)))
      have f1101 := f1085.other W1093 (Or.inr (slot_ne (Or.inl (hw _ (List.mem_of_getElem? (i := 15) rfl))) (Or.inl (hw _ (List.mem_of_getElem? (i := 57) rfl))) (by decide) (t := (.array .byte)) (t' := .int) (by decide) (by decide)))
      have f1102 := f1086.other W1093 (Ne.symm hn1)
      have f1103 := f1091.other W1093 (Ne.symm hn2)
      have f1104 := f1087.other W1093 (Or.inr (slot_ne (Or.inl (hw _ (List.mem_of_getElem? (i := 69) rfl))) (Or.inl (hw _ (List.mem_of_getElem? (i := 57) rfl))) (by decide) (t := (.array .boolean)) (t' := .int) (by decide) (by decide)))
      have f1105 := f1088.other W1093 (Or.inr (slot_ne (Or.inl (hw _ (List.mem_of_getElem? (i := 83) rfl))) (Or.inl (hw _ (List.mem_of_getElem? (i := 57) rfl))) (by decide) (t := .int) (t' := .int) (by decide) (by decide)))
      have f1106 := f1089.other W1093 (Ne.symm hn7)
      have z1107 := Nat.le_trans z1090 (Keep.of_wr W1093).1
      have f1108 : Fld Z h1093 o "com/example/quayside/quayside/Row" "size" "I" (.int (Int32.ofNat (k + 1))) := f1082.same W1093
      have N1093 := Fr.snoc X1093 N1076 hg1
      refine own_Go.of (S' := (T1093.setTop (mkF m 102 #[.val (.ref o), .val (.int (Int32.ofNat i)), .val (.int j)] [(.ref o), (.ref o)]))) (fun t kt => ?_) ?_
      · show Steps p.tables e below (T1093.setTop (mkF m 100 #[.val (.ref o), .val (.int (Int32.ofNat i)), .val (.int j)] [])) _
        refine XS.aloadN X1093.here hx rfl (own_hb hby d8_100) rfl rfl ?_
        refine XS.aloadN X1093.here hx rfl (own_hb hby d8_101) rfl rfl ?_
        exact kt
      obtain ⟨T1109, X1109, e1109, st1109⟩ := getF X1093 hx hZ hown (host := "") (Or.inl (hw _ (List.mem_of_getElem? (i := 49) rfl))) Via.refl e1093 f1099 (g := (mkF m 102 #[.val (.ref o), .val (.int (Int32.ofNat i)), .val (.int j)] [(.ref o), (.ref o)])) rfl rfl (own_hb hby d8_102)
      refine own_Go.of (S' := (T1109.setTop (mkF m 105 #[.val (.ref o), .val (.int (Int32.ofNat i)), .val (.int j)] [(.int r), (.ref o)]))) st1109 ?_
      refine own_Go.of (S' := (T1109.setTop (mkF m 106 #[.val (.ref o), .val (.int (Int32.ofNat i)), .val (.int j)] [(.int j), (.int r), (.ref o)]))) (fun t kt => ?_) ?_
      · show Steps p.tables e below (T1109.setTop (mkF m 105 #[.val (.ref o), .val (.int (Int32.ofNat i)), .val (.int j)] [(.int r), (.ref o)])) _
        refine XS.iloadN X1109.here hx rfl (own_hb hby d8_105) rfl ?_
        exact kt
      obtain ⟨_, _, ⟨T1110, L1110, k1110, n1110⟩, -, X1110, ⟨Lc1110, hQ1110, l1110, y1110, z1110⟩, st1110⟩ := Jvm.LawKit.callS X1109 hx (y := (⟨"java/lang/Math", "max", "(II)I"⟩ : MethodName)) hown (mvT hZ (hw _ (List.mem_of_getElem? (i := 58) rfl))) (mvT hZ (hw _ (List.mem_of_getElem? (i := 59) rfl))) (mvT hZ (hw _ (List.mem_of_getElem? (i := 60) rfl))) (mvT hZ (hw _ (List.mem_of_getElem? (i := 61) rfl))) (by decide) (backOf (W := 1) (rm9 l Z a0 hw [] r j h1093 n0 z1107 ) hZ (hw _ (List.mem_of_getElem? (i := 61) rfl)) (hw _ (List.mem_of_getElem? (i := 60) rfl)) (by decide) (by decide)) (g := (mkF m 106 #[.val (.ref o), .val (.int (Int32.ofNat i)), .val (.int j)] [(.int j), (.int r), (.ref o)])) rfl (by rw [hml]; rfl) (argsL := [(.int r), (.int j)]) (rest := [(.ref o)]) (lenOf pd_0 rfl) rfl (by show 2 * 0 + _ ≤ _; exact Nat.le_of_eq rfl) (own_hb hby d8_106) (fun _ _ => ⟨rfl, e1109, (by decide : 0 + 0 ≤ _), (by decide : 0 + 0 ≤ _)⟩)
      dsimp only [Pt.U, Pt.locs, Pt.cells, Pt.slots] at X1110 l1110 y1110 z1110 st1110 hQ1110
      subst l1110 y1110 z1110
      obtain ⟨rfl, N1110q, hh1110⟩ := hQ1110
      have N1110 := Fr.app N1093 N1110q
      refine own_Go.of (S' := (T1110.setTop (mkF m 109 #[.val (.ref o), .val (.int (Int32.ofNat i)), .val (.int j)] [(.int (own_maxI r j)), (.ref o)]))) (fun t kt => st1110 t kt) ?_
      obtain ⟨T1111, h1111, X1111, e1111, W1111, st1111⟩ := putF X1110 hx hZ hown (host := "") (Or.inl (hw _ (List.mem_of_getElem? (i := 49) rfl))) Via.refl hh1110 f1099 f1096 (Or.inl (hw _ (List.mem_of_getElem? (i := 50) rfl))) (hw _ (List.mem_of_getElem? (i := 6) rfl)) (ty := .int) (by decide) rfl rfl (g := (mkF m 109 #[.val (.ref o), .val (.int (Int32.ofNat i)), .val (.int j)] [(.int (own_maxI r j)), (.ref o)])) rfl rfl (own_hb hby d8_109)
      refine own_Go.of (S' := (T1111.setTop (mkF m 112 #[.val (.ref o), .val (.int (Int32.ofNat i)), .val (.int j)] []))) st1111 ?_
      have kx1112 := kx1094.wr W1111 hn4
      have f1113 := f1095.wr W1111
      have f1114 := f1096.wr W1111
      have f1115 := f1097.other W1111 (Or.inr (slot_ne (Or.inl (hw _ (List.mem_of_getElem? (i := 18) rfl))) (Or.inl (hw _ (List.mem_of_getElem? (i := 50) rfl))) (by decide) (t := (.array .int)) (t' := .int) (by decide) (by decide)))
      have f1116 := f1098.other W1111 (Or.inr (slot_ne (Or.inl (hw _ (List.mem_of_getElem? (i := 20) rfl))) (Or.inl (hw _ (List.mem_of_getElem? (i := 50) rfl))) (by decide) (t := (.array .int)) (t' := .int) (by decide) (by decide)))
      have f1117 := f1108.other W1111 (Or.inr (slot_ne (Or.inl (hw _ (List.mem_of_getElem? (i := 57) rfl))) (Or.inl (hw _ (List.mem_of_getElem? (i := 50) rfl))) (by decide) (t := .int) (t' := .int) (by decide) (by decide)))
      have f1118 := f1100.other W1111 (Or.inr (slot_ne (Or.inl (hw _ (List.mem_of_getElem? (i := 40) rfl))) (Or.inl (hw _ (List.mem_of_getElem? (i := 50) rfl))) (by decide) (t := .boolean) (t' := .int) (by decide) (by decide)))
      have f1119 := f1101.other W1111 (Or.inr (slot_ne (Or.inl (hw _ (List.mem_of_getElem? (i := 15) rfl))) (Or.inl (hw _ (List.mem_of_getElem? (i := 50) rfl))) (by decide) (t := (.array .byte)) (t' := .int) (by decide) (by decide)))
      have f1120 := f1102.other W1111 (Ne.symm hn1)
      have f1121 := f1103.other W1111 (Ne.symm hn2)
      have f1122 := f1104.other W1111 (Or.inr (slot_ne (Or.inl (hw _ (List.mem_of_getElem? (i := 69) rfl))) (Or.inl (hw _ (List.mem_of_getElem? (i := 50) rfl))) (by decide) (t := (.array .boolean)) (t' := .int) (by decide) (by decide)))
      have f1123 := f1105.other W1111 (Or.inr (slot_ne (Or.inl (hw _ (List.mem_of_getElem? (i := 83) rfl))) (Or.inl (hw _ (List.mem_of_getElem? (i := 50) rfl))) (by decide) (t := .int) (t' := .int) (by decide) (by decide)))
      have f1124 := f1106.other W1111 (Ne.symm hn7)
      have z1125 := Nat.le_trans z1107 (Keep.of_wr W1111).1
      have f1126 : Fld Z h1111 o "com/example/quayside/quayside/Row" "reach" "I" (.int (own_maxI r j)) := f1099.same W1111
      have N1111 := Fr.snoc X1111 N1110 hg1
      refine own_Go.of (S' := (T1111.setTop (mkF m 114 #[.val (.ref o), .val (.int (Int32.ofNat i)), .val (.int j)] [(.int (0 : Int32)), (.ref o)]))) (fun t kt => ?_) ?_
      · show Steps p.tables e below (T1111.setTop (mkF m 112 #[.val (.ref o), .val (.int (Int32.ofNat i)), .val (.int j)] [])) _
        refine XS.aloadN X1111.here hx rfl (own_hb hby d8_112) rfl rfl ?_
        refine XS.iconst X1111.here hx rfl (own_hb hby d8_113) ?_
        exact kt
      obtain ⟨T1127, h1127, X1127, e1127, W1127, st1127⟩ := putFN X1111 hx hZ hown (hw _ (List.mem_of_getElem? (i := 39) rfl)) Via.refl e1111 f1118 f1114 (Or.inl (hw _ (List.mem_of_getElem? (i := 40) rfl))) (hw _ (List.mem_of_getElem? (i := 6) rfl)) (ty := .boolean) (v' := (.int (nar .boolean (0 : Int32)))) (by decide) rfl (fits_nar_bool _) (g := (mkF m 114 #[.val (.ref o), .val (.int (Int32.ofNat i)), .val (.int j)] [(.int (0 : Int32)), (.ref o)])) rfl rfl (own_hb hby d8_114)
      refine own_Go.of (S' := (T1127.setTop (mkF m 117 #[.val (.ref o), .val (.int (Int32.ofNat i)), .val (.int j)] []))) st1127 ?_
      have kx1128 := kx1112.wr W1127 hn4
      have f1129 := f1113.wr W1127
      have f1130 := f1114.wr W1127
      have f1131 := f1115.other W1127 (Or.inr (slot_ne (Or.inl (hw _ (List.mem_of_getElem? (i := 18) rfl))) (Or.inl (hw _ (List.mem_of_getElem? (i := 40) rfl))) (by decide) (t := (.array .int)) (t' := .boolean) (by decide) (by decide)))
      have f1132 := f1116.other W1127 (Or.inr (slot_ne (Or.inl (hw _ (List.mem_of_getElem? (i := 20) rfl))) (Or.inl (hw _ (List.mem_of_getElem? (i := 40) rfl))) (by decide) (t := (.array .int)) (t' := .boolean) (by decide) (by decide)))
      have f1133 := f1117.other W1127 (Or.inr (slot_ne (Or.inl (hw _ (List.mem_of_getElem? (i := 57) rfl))) (Or.inl (hw _ (List.mem_of_getElem? (i := 40) rfl))) (by decide) (t := .int) (t' := .boolean) (by decide) (by decide)))
      have f1134 := f1126.other W1127 (Or.inr (slot_ne (Or.inl (hw _ (List.mem_of_getElem? (i := 50) rfl))) (Or.inl (hw _ (List.mem_of_getElem? (i := 40) rfl))) (by decide) (t := .int) (t' := .boolean) (by decide) (by decide)))
      have f1135 := f1119.other W1127 (Or.inr (slot_ne (Or.inl (hw _ (List.mem_of_getElem? (i := 15) rfl))) (Or.inl (hw _ (List.mem_of_getElem? (i := 40) rfl))) (by decide) (t := (.array .byte)) (t' := .boolean) (by decide) (by decide)))
      have f1136 := f1120.other W1127 (Ne.symm hn1)
      have f1137 := f1121.other W1127 (Ne.symm hn2)
      have f1138 := f1122.other W1127 (Or.inr (slot_ne (Or.inl (hw _ (List.mem_of_getElem? (i := 69) rfl))) (Or.inl (hw _ (List.mem_of_getElem? (i := 40) rfl))) (by decide) (t := (.array .boolean)) (t' := .boolean) (by decide) (by decide)))
      have f1139 := f1123.other W1127 (Or.inr (slot_ne (Or.inl (hw _ (List.mem_of_getElem? (i := 83) rfl))) (Or.inl (hw _ (List.mem_of_getElem? (i := 40) rfl))) (by decide) (t := .int) (t' := .boolean) (by decide) (by decide)))
      have f1140 := f1124.other W1127 (Ne.symm hn7)
      have z1141 := Nat.le_trans z1125 (Keep.of_wr W1127).1
      have f1142 : Fld Z h1127 o "com/example/quayside/quayside/Row" "text" "Z" (.int (nar .boolean (0 : Int32))) := f1118.same W1127
      have N1127 := Fr.snoc X1127 N1111 hg1
      have f1143 : Fld Z h1127 o "com/example/quayside/quayside/Row" "text" "Z" (.int (0 : Int32)) := f1142
      exact own_retV X1127 hx hlk hret (own_hb hby d8_117) e1127 ⟨cap, rfl, N1127, kx1128, ⟨rs, re, (own_set gs k (Int32.ofNat i)), (own_set ge k j), (0 : Int32), (own_maxI r j), f1130, f1131, f1132, f1133, f1134, f1143, f1135, f1136, f1137, hg1, hg2, hg3, hn1, hn2, hn3, hn4, hn5, hn6, (by omega), (by omega), ⟨own_dA hge.1, own_Rch.add hge.2 (own_nneg hi hij)⟩, Or.inr ⟨rn, mn, c', g, f1138, f1139, f1140, hg4, hn7, hn8, hn9, hn10, (by omega), (by omega), (by omega)⟩⟩⟩ (by decide) (by decide)
    · skip
      refine own_Go.of (S' := (T0.setTop (mkF m 25 #[.val (.ref o), .val (.int (Int32.ofNat i)), .val (.int j)] [(.ref o)]))) (fun t kt => ?_) ?_
      · show Steps p.tables e below (T0.setTop (mkF m 0 #[.val (.ref o), .val (.int (Int32.ofNat i)), .val (.int j)] [])) _
        refine XS.iloadN X0.here hx rfl (own_hb hby d8_0) rfl ?_
        refine XS.ifNo X0.here hx rfl (own_hb hby d8_1) rfl ((if0 _ _).trans (flt (fun q => by have h2 := (own_ltN (b := 0) hi (by decide)).mp q; omega)).1) ?_
        refine XS.iloadN X0.here hx rfl (own_hb hby d8_4) rfl ?_
        refine XS.iloadN X0.here hx rfl (own_hb hby d8_5) rfl ?_
        show Steps p.tables e below (T0.setTop (mkF m 6 #[.val (.ref o), .val (.int (Int32.ofNat i)), .val (.int j)] [(.int (Int32.ofNat i)), (.int j)])) _
        refine XS.icmpYes X0.here hx rfl (pc0 := 6) (pc' := 24) rfl (own_hb hby d8_6) rfl (flt hij).2.1 (by decide) (by decide) ?_
        refine XS.aloadN X0.here hx rfl (own_hb hby d8_24) rfl rfl ?_
        exact kt
      obtain ⟨T1144, X1144, e1144, st1144⟩ := getF X0 hx hZ hown (host := "") (Or.inl (hw _ (List.mem_of_getElem? (i := 56) rfl))) Via.refl e0 hF3 (g := (mkF m 25 #[.val (.ref o), .val (.int (Int32.ofNat i)), .val (.int j)] [(.ref o)])) rfl rfl (own_hb hby d8_25)
      refine own_Go.of (S' := (T1144.setTop (mkF m 28 #[.val (.ref o), .val (.int (Int32.ofNat i)), .val (.int j)] [(.int (Int32.ofNat k))]))) st1144 ?_
      refine own_Go.of (S' := (T1144.setTop (mkF m 29 #[.val (.ref o), .val (.int (Int32.ofNat i)), .val (.int j)] [(.ref o), (.int (Int32.ofNat k))]))) (fun t kt => ?_) ?_
      · show Steps p.tables e below (T1144.setTop (mkF m 28 #[.val (.ref o), .val (.int (Int32.ofNat i)), .val (.int j)] [(.int (Int32.ofNat k))])) _
        refine XS.aloadN X1144.here hx rfl (own_hb hby d8_28) rfl rfl ?_
        exact kt
      obtain ⟨T1145, X1145, e1145, st1145⟩ := getF X1144 hx hZ hown (host := "") (Or.inl (hw _ (List.mem_of_getElem? (i := 17) rfl))) Via.refl e1144 hF1 (g := (mkF m 29 #[.val (.ref o), .val (.int (Int32.ofNat i)), .val (.int j)] [(.ref o), (.int (Int32.ofNat k))])) rfl rfl (own_hb hby d8_29)
      refine own_Go.of (S' := (T1145.setTop (mkF m 32 #[.val (.ref o), .val (.int (Int32.ofNat i)), .val (.int j)] [(.ref rs), (.int (Int32.ofNat k))]))) st1145 ?_
      obtain ⟨cl1146, Ar1146, hln1146⟩ := own_Ar.len hA1
      refine own_Go.of (S' := (T1145.setTop (mkF m 38 #[.val (.ref o), .val (.int (Int32.ofNat i)), .val (.int j)] [(.ref o), (.ref o)]))) (fun t kt => ?_) ?_
      · show Steps p.tables e below (T1145.setTop (mkF m 32 #[.val (.ref o), .val (.int (Int32.ofNat i)), .val (.int j)] [(.ref rs), (.int (Int32.ofNat k))])) _
        refine X1145.arraylength hx (by rw [e1145]; exact Ar1146.1) (State.isArrayOf_alike hZ.alike Ar1146.2.1) (g := (mkF m 32 #[.val (.ref o), .val (.int (Int32.ofNat i)), .val (.int j)] [(.ref rs), (.int (Int32.ofNat k))])) rfl rfl (own_hb hby d8_32) _ ?_
        rw [hln1146]
        refine XS.icmpNo X1145.here hx rfl (own_hb hby d8_33) rfl (teq (own_eqN' (by omega))).2 ?_
        refine XS.aloadN X1145.here hx rfl (own_hb hby d8_36) rfl rfl ?_
        refine XS.aloadN X1145.here hx rfl (own_hb hby d8_37) rfl rfl ?_
        exact kt
      obtain ⟨T1147, X1147, e1147, st1147⟩ := getF X1145 hx hZ hown (host := "") (Or.inl (hw _ (List.mem_of_getElem? (i := 17) rfl))) Via.refl e1145 hF1 (g := (mkF m 38 #[.val (.ref o), .val (.int (Int32.ofNat i)), .val (.int j)] [(.ref o), (.ref o)])) rfl rfl (own_hb hby d8_38)
      refine own_Go.of (S' := (T1147.setTop (mkF m 41 #[.val (.ref o), .val (.int (Int32.ofNat i)), .val (.int j)] [(.ref rs), (.ref o)]))) st1147 ?_
      refine own_Go.of (S' := (T1147.setTop (mkF m 43 #[.val (.ref o), .val (.int (Int32.ofNat i)), .val (.int j)] [(.ref o), (.int (2 : Int32)), (.ref rs), (.ref o)]))) (fun t kt => ?_) ?_
      · show Steps p.tables e below (T1147.setTop (mkF m 41 #[.val (.ref o), .val (.int (Int32.ofNat i)), .val (.int j)] [(.ref rs), (.ref o)])) _
        refine XS.iconst X1147.here hx rfl (own_hb hby d8_41) ?_
        refine XS.aloadN X1147.here hx rfl (own_hb hby d8_42) rfl rfl ?_
        exact kt
      obtain ⟨T1148, X1148, e1148, st1148⟩ := getF X1147 hx hZ hown (host := "") (Or.inl (hw _ (List.mem_of_getElem? (i := 56) rfl))) Via.refl e1147 hF3 (g := (mkF m 43 #[.val (.ref o), .val (.int (Int32.ofNat i)), .val (.int j)] [(.ref o), (.int (2 : Int32)), (.ref rs), (.ref o)])) rfl rfl (own_hb hby d8_43)
      refine own_Go.of (S' := (T1148.setTop (mkF m 46 #[.val (.ref o), .val (.int (Int32.ofNat i)), .val (.int j)] [(.int (Int32.ofNat k)), (.int (2 : Int32)), (.ref rs), (.ref o)]))) st1148 ?_
      refine own_Go.of (S' := (T1148.setTop (mkF m 47 #[.val (.ref o), .val (.int (Int32.ofNat i)), .val (.int j)] [(.int (Int32.ofNat (2 * k))), (.ref rs), (.ref o)]))) (fun t kt => ?_) ?_
      · show Steps p.tables e below (T1148.setTop (mkF m 46 #[.val (.ref o), .val (.int (Int32.ofNat i)), .val (.int j)] [(.int (Int32.ofNat k)), (.int (2 : Int32)), (.ref rs), (.ref o)])) _
        refine XS.imul X1148.here hx rfl (own_hb hby d8_46) rfl ?_
        show Steps p.tables e below (T1148.setTop (mkF m 47 #[.val (.ref o), .val (.int (Int32.ofNat i)), .val (.int j)] [(.int ((2 : Int32) * (Int32.ofNat k))), (.ref rs), (.ref o)])) _
        rw [show (2 : Int32) * Int32.ofNat k = Int32.ofNat (2 * k) from (Int32.ofNat_mul 2 k).symm]
        exact kt
      obtain ⟨_, _, ⟨T1149, L1149, k1149, n1149⟩, -, X1149, ⟨Lc1149, hQ1149, l1149, y1149, z1149⟩, st1149⟩ := Jvm.LawKit.callS X1148 hx (y := (⟨"java/util/Arrays", "copyOf", "([II)[I"⟩ : MethodName)) hown (mvT hZ (hw _ (List.mem_of_getElem? (i := 84) rfl))) (mvT hZ (hw _ (List.mem_of_getElem? (i := 85) rfl))) (mvT hZ (hw _ (List.mem_of_getElem? (i := 73) rfl))) (mvT hZ (hw _ (List.mem_of_getElem? (i := 86) rfl))) (by decide) (backOf (W := 1) (rm13 l Z a0 hw [] rs (2 * k) cap gs h0 n0 Z0 hA1 (by omega) (by omega)) hZ (hw _ (List.mem_of_getElem? (i := 86) rfl)) (hw _ (List.mem_of_getElem? (i := 73) rfl)) (by decide) (by decide)) (g := (mkF m 47 #[.val (.ref o), .val (.int (Int32.ofNat i)), .val (.int j)] [(.int (Int32.ofNat (2 * k))), (.ref rs), (.ref o)])) rfl (by rw [hml]; rfl) (argsL := [(.ref rs), (.int (Int32.ofNat (2 * k)))]) (rest := [(.ref o)]) (lenOf pd_1 rfl) rfl (by show 2 * 0 + _ ≤ _; exact Nat.le_of_eq rfl) (own_hb hby d8_47) (fun _ _ => ⟨rfl, e1148, (by decide : 0 + 1 ≤ _), (by decide : 0 + 8 ≤ _)⟩)
      dsimp only [Pt.U, Pt.locs, Pt.cells, Pt.slots] at X1149 l1149 y1149 z1149 st1149 hQ1149
      subst l1149 y1149 z1149
      obtain ⟨b1149, rfl, N1149q, K1149, p1149_0, p1149_1⟩ := hQ1149
      have N1149 := Fr.app N0 N1149q
      refine own_Go.of (S' := (T1149.setTop (mkF m 50 #[.val (.ref o), .val (.int (Int32.ofNat i)), .val (.int j)] [(.ref b1149), (.ref o)]))) (fun t kt => st1149 t kt) ?_
      have gx1150 : n0 ≤ b1149 := Nat.le_trans Z0 p1149_0
      have ne1151 : x ≠ b1149 := Nat.ne_of_lt (Nat.lt_of_lt_of_le pr4.lt p1149_0)
      have ne1152 : o ≠ b1149 := Nat.ne_of_lt (Nat.lt_of_lt_of_le hE.lt p1149_0)
      have ne1153 : rs ≠ b1149 := Nat.ne_of_lt (Nat.lt_of_lt_of_le hA1.lt p1149_0)
      have ne1154 : re ≠ b1149 := Nat.ne_of_lt (Nat.lt_of_lt_of_le hA2.lt p1149_0)
      have ne1155 : rn ≠ b1149 := Nat.ne_of_lt (Nat.lt_of_lt_of_le hA3.lt p1149_0)
      have kx1156 := kx0.keep K1149 nin0
      have f1157 := pr4.keep K1149
      have f1158 := hE.keep K1149
      have f1159 := hF1.keep K1149 nin0
      have f1160 := hF2.keep K1149 nin0
      have f1161 := hF3.keep K1149 nin0
      have f1162 := hF4.keep K1149 nin0
      have f1163 := hF5.keep K1149 nin0
      have f1164 := hF6.keep K1149 nin0
      have f1165 := hA1.keep K1149 nin0
      have f1166 := hA2.keep K1149 nin0
      have f1167 := hm1.keep K1149 nin0
      have f1168 := hm2.keep K1149 nin0
      have f1169 := hA3.keep K1149 nin0
      have z1170 := Nat.le_trans Z0 K1149.1
      obtain ⟨T1171, h1171, X1171, e1171, W1171, st1171⟩ := putF X1149 hx hZ hown (host := "") (Or.inl (hw _ (List.mem_of_getElem? (i := 17) rfl))) Via.refl rfl f1159 f1158 (Or.inl (hw _ (List.mem_of_getElem? (i := 18) rfl))) (hw _ (List.mem_of_getElem? (i := 6) rfl)) (ty := (.array .int)) (by decide) rfl rfl (g := (mkF m 50 #[.val (.ref o), .val (.int (Int32.ofNat i)), .val (.int j)] [(.ref b1149), (.ref o)])) rfl rfl (own_hb hby d8_50)
      refine own_Go.of (S' := (T1171.setTop (mkF m 53 #[.val (.ref o), .val (.int (Int32.ofNat i)), .val (.int j)] []))) st1171 ?_
      have kx1172 := kx1156.wr W1171 hn4
      have f1173 := f1157.wr W1171
      have f1174 := f1158.wr W1171
      have f1175 := f1160.other W1171 (Or.inr (slot_ne (Or.inl (hw _ (List.mem_of_getElem? (i := 20) rfl))) (Or.inl (hw _ (List.mem_of_getElem? (i := 18) rfl))) (by decide) (t := (.array .int)) (t' := (.array .int)) (by decide) (by decide)))
      have f1176 := f1161.other W1171 (Or.inr (slot_ne (Or.inl (hw _ (List.mem_of_getElem? (i := 57) rfl))) (Or.inl (hw _ (List.mem_of_getElem? (i := 18) rfl))) (by decide) (t := .int) (t' := (.array .int)) (by decide) (by decide)))
      have f1177 := f1162.other W1171 (Or.inr (slot_ne (Or.inl (hw _ (List.mem_of_getElem? (i := 50) rfl))) (Or.inl (hw _ (List.mem_of_getElem? (i := 18) rfl))) (by decide) (t := .int) (t' := (.array .int)) (by decide) (by decide)))
      have f1178 := f1163.other W1171 (Or.inr (slot_ne (Or.inl (hw _ (List.mem_of_getElem? (i := 40) rfl))) (Or.inl (hw _ (List.mem_of_getElem? (i := 18) rfl))) (by decide) (t := .boolean) (t' := (.array .int)) (by decide) (by decide)))
      have f1179 := f1164.other W1171 (Or.inr (slot_ne (Or.inl (hw _ (List.mem_of_getElem? (i := 15) rfl))) (Or.inl (hw _ (List.mem_of_getElem? (i := 18) rfl))) (by decide) (t := (.array .byte)) (t' := (.array .int)) (by decide) (by decide)))
      have f1180 := f1165.other W1171 (Ne.symm hn1)
      have f1181 := f1166.other W1171 (Ne.symm hn2)
      have f1182 := f1167.other W1171 (Or.inr (slot_ne (Or.inl (hw _ (List.mem_of_getElem? (i := 69) rfl))) (Or.inl (hw _ (List.mem_of_getElem? (i := 18) rfl))) (by decide) (t := (.array .boolean)) (t' := (.array .int)) (by decide) (by decide)))
      have f1183 := f1168.other W1171 (Or.inr (slot_ne (Or.inl (hw _ (List.mem_of_getElem? (i := 83) rfl))) (Or.inl (hw _ (List.mem_of_getElem? (i := 18) rfl))) (by decide) (t := .int) (t' := (.array .int)) (by decide) (by decide)))
      have f1184 := f1169.other W1171 (Ne.symm hn7)
      have f1185 := p1149_1.other W1171 (Ne.symm ne1152)
      have z1186 := Nat.le_trans z1170 (Keep.of_wr W1171).1
      have f1187 : Fld Z h1171 o "com/example/quayside/quayside/Row" "starts" "[I" (.ref b1149) := f1159.same W1171
      have N1171 := Fr.snoc X1171 N1149 hg1
      refine own_Go.of (S' := (T1171.setTop (mkF m 55 #[.val (.ref o), .val (.int (Int32.ofNat i)), .val (.int j)] [(.ref o), (.ref o)]))) (fun t kt => ?_) ?_
      · show Steps p.tables e below (T1171.setTop (mkF m 53 #[.val (.ref o), .val (.int (Int32.ofNat i)), .val (.int j)] [])) _
        refine XS.aloadN X1171.here hx rfl (own_hb hby d8_53) rfl rfl ?_
        refine XS.aloadN X1171.here hx rfl (own_hb hby d8_54) rfl rfl ?_
        exact kt
      obtain ⟨T1188, X1188, e1188, st1188⟩ := getF X1171 hx hZ hown (host := "") (Or.inl (hw _ (List.mem_of_getElem? (i := 19) rfl))) Via.refl e1171 f1175 (g := (mkF m 55 #[.val (.ref o), .val (.int (Int32.ofNat i)), .val (.int j)] [(.ref o), (.ref o)])) rfl rfl (own_hb hby d8_55)
      refine own_Go.of (S' := (T1188.setTop (mkF m 58 #[.val (.ref o), .val (.int (Int32.ofNat i)), .val (.int j)] [(.ref re), (.ref o)]))) st1188 ?_
      refine own_Go.of (S' := (T1188.setTop (mkF m 60 #[.val (.ref o), .val (.int (Int32.ofNat i)), .val (.int j)] [(.ref o), (.int (2 : Int32)), (.ref re), (.ref o)]))) (fun t kt => ?_) ?_
      · show Steps p.tables e below (T1188.setTop (mkF m 58 #[.val (.ref o), .val (.int (Int32.ofNat i)), .val (.int j)] [(.ref re), (.ref o)])) _
        refine XS.iconst X1188.here hx rfl (own_hb hby d8_58) ?_
        refine XS.aloadN X1188.here hx rfl (own_hb hby d8_59) rfl rfl ?_
        exact kt
      obtain ⟨T1189, X1189, e1189, st1189⟩ := getF X1188 hx hZ hown (host := "") (Or.inl (hw _ (List.mem_of_getElem? (i := 56) rfl))) Via.refl e1188 f1176 (g := (mkF m 60 #[.val (.ref o), .val (.int (Int32.ofNat i)), .val (.int j)] [(.ref o), (.int (2 : Int32)), (.ref re), (.ref o)])) rfl rfl (own_hb hby d8_60)
      refine own_Go.of (S' := (T1189.setTop (mkF m 63 #[.val (.ref o), .val (.int (Int32.ofNat i)), .val (.int j)] [(.int (Int32.ofNat k)), (.int (2 : Int32)), (.ref re), (.ref o)]))) st1189 ?_
      refine own_Go.of (S' := (T1189.setTop (mkF m 64 #[.val (.ref o), .val (.int (Int32.ofNat i)), .val (.int j)] [(.int (Int32.ofNat (2 * k))), (.ref re), (.ref o)]))) (fun t kt => ?_) ?_
      · show Steps p.tables e below (T1189.setTop (mkF m 63 #[.val (.ref o), .val (.int (Int32.ofNat i)), .val (.int j)] [(.int (Int32.ofNat k)), (.int (2 : Int32)), (.ref re), (.ref o)])) _
        refine XS.imul X1189.here hx rfl (own_hb hby d8_63) rfl ?_
        show Steps p.tables e below (T1189.setTop (mkF m 64 #[.val (.ref o), .val (.int (Int32.ofNat i)), .val (.int j)] [(.int ((2 : Int32) * (Int32.ofNat k))), (.ref re), (.ref o)])) _
        rw [show (2 : Int32) * Int32.ofNat k = Int32.ofNat (2 * k) from (Int32.ofNat_mul 2 k).symm]
        exact kt
      obtain ⟨_, _, ⟨T1190, L1190, k1190, n1190⟩, -, X1190, ⟨Lc1190, hQ1190, l1190, y1190, z1190⟩, st1190⟩ := Jvm.LawKit.callS X1189 hx (y := (⟨"java/util/Arrays", "copyOf", "([II)[I"⟩ : MethodName)) hown (mvT hZ (hw _ (List.mem_of_getElem? (i := 84) rfl))) (mvT hZ (hw _ (List.mem_of_getElem? (i := 85) rfl))) (mvT hZ (hw _ (List.mem_of_getElem? (i := 73) rfl))) (mvT hZ (hw _ (List.mem_of_getElem? (i := 86) rfl))) (by decide) (backOf (W := 1) (rm13 l Z a0 hw [] re (2 * k) cap ge h1171 n0 z1186 f1181 (by omega) (by omega)) hZ (hw _ (List.mem_of_getElem? (i := 86) rfl)) (hw _ (List.mem_of_getElem? (i := 73) rfl)) (by decide) (by decide)) (g := (mkF m 64 #[.val (.ref o), .val (.int (Int32.ofNat i)), .val (.int j)] [(.int (Int32.ofNat (2 * k))), (.ref re), (.ref o)])) rfl (by rw [hml]; rfl) (argsL := [(.ref re), (.int (Int32.ofNat (2 * k)))]) (rest := [(.ref o)]) (lenOf pd_1 rfl) rfl (by show 2 * 0 + _ ≤ _; exact Nat.le_of_eq rfl) (own_hb hby d8_64) (fun _ _ => ⟨rfl, e1189, (by decide : 1 + 1 ≤ _), (by decide : 8 + 8 ≤ _)⟩)
      dsimp only [Pt.U, Pt.locs, Pt.cells, Pt.slots] at X1190 l1190 y1190 z1190 st1190 hQ1190
      subst l1190 y1190 z1190
      obtain ⟨b1190, rfl, N1190q, K1190, p1190_0, p1190_1⟩ := hQ1190
      have N1190 := Fr.app N1171 N1190q
      refine own_Go.of (S' := (T1190.setTop (mkF m 67 #[.val (.ref o), .val (.int (Int32.ofNat i)), .val (.int j)] [(.ref b1190), (.ref o)]))) (fun t kt => st1190 t kt) ?_
      have gx1191 : n0 ≤ b1190 := Nat.le_trans z1186 p1190_0
      have ne1192 : x ≠ b1190 := Nat.ne_of_lt (Nat.lt_of_lt_of_le f1173.lt p1190_0)
      have ne1193 : o ≠ b1190 := Nat.ne_of_lt (Nat.lt_of_lt_of_le f1174.lt p1190_0)
      have ne1194 : rs ≠ b1190 := Nat.ne_of_lt (Nat.lt_of_lt_of_le f1180.lt p1190_0)
      have ne1195 : re ≠ b1190 := Nat.ne_of_lt (Nat.lt_of_lt_of_le f1181.lt p1190_0)
      have ne1196 : rn ≠ b1190 := Nat.ne_of_lt (Nat.lt_of_lt_of_le f1184.lt p1190_0)
      have ne1197 : b1149 ≠ b1190 := Nat.ne_of_lt (Nat.lt_of_lt_of_le f1185.lt p1190_0)
      have kx1198 := kx1172.keep K1190 nin0
      have f1199 := f1173.keep K1190
      have f1200 := f1174.keep K1190
      have f1201 := f1187.keep K1190 nin0
      have f1202 := f1175.keep K1190 nin0
      have f1203 := f1176.keep K1190 nin0
      have f1204 := f1177.keep K1190 nin0
      have f1205 := f1178.keep K1190 nin0
      have f1206 := f1179.keep K1190 nin0
      have f1207 := f1180.keep K1190 nin0
      have f1208 := f1181.keep K1190 nin0
      have f1209 := f1182.keep K1190 nin0
      have f1210 := f1183.keep K1190 nin0
      have f1211 := f1184.keep K1190 nin0
      have f1212 := f1185.keep K1190 nin0
      have z1213 := Nat.le_trans z1186 K1190.1
      obtain ⟨T1214, h1214, X1214, e1214, W1214, st1214⟩ := putF X1190 hx hZ hown (host := "") (Or.inl (hw _ (List.mem_of_getElem? (i := 19) rfl))) Via.refl rfl f1202 f1200 (Or.inl (hw _ (List.mem_of_getElem? (i := 20) rfl))) (hw _ (List.mem_of_getElem? (i := 6) rfl)) (ty := (.array .int)) (by decide) rfl rfl (g := (mkF m 67 #[.val (.ref o), .val (.int (Int32.ofNat i)), .val (.int j)] [(.ref b1190), (.ref o)])) rfl rfl (own_hb hby d8_67)
      refine own_Go.of (S' := (T1214.setTop (mkF m 70 #[.val (.ref o), .val (.int (Int32.ofNat i)), .val (.int j)] []))) st1214 ?_
      have kx1215 := kx1198.wr W1214 hn4
      have f1216 := f1199.wr W1214
      have f1217 := f1200.wr W1214
      have f1218 := f1201.other W1214 (Or.inr (slot_ne (Or.inl (hw _ (List.mem_of_getElem? (i := 18) rfl))) (Or.inl (hw _ (List.mem_of_getElem? (i := 20) rfl))) (by decide) (t := (.array .int)) (t' := (.array .int)) (by decide) (by decide)))
      have f1219 := f1203.other W1214 (Or.inr (slot_ne (Or.inl (hw _ (List.mem_of_getElem? (i := 57) rfl))) (Or.inl (hw _ (List.mem_of_getElem? (i := 20) rfl))) (by decide) (t := .int) (t' := (.array .int)) (by decide) (by decide)))
      have f1220 := f1204.other W1214 (Or.inr (slot_ne (Or.inl (hw _ (List.mem_of_getElem? (i := 50) rfl))) (Or.inl (hw _ (List.mem_of_getElem? (i := 20) rfl))) (by decide) (t := .int) (t' := (.array .int)) (by decide) (by decide)))
      have f1221 := f1205.other W1214 (Or.inr (slot_ne (Or.inl (hw _ (List.mem_of_getElem? (i := 40) rfl))) (Or.inl (hw _ (List.mem_of_getElem? (i := 20) rfl))) (by decide) (t := .boolean) (t' := (.array .int)) (by decide) (by decide)))
      have f1222 := f1206.other W1214 (Or.inr (slot_ne (Or.inl (hw _ (List.mem_of_getElem? (i := 15) rfl))) (Or.inl (hw _ (List.mem_of_getElem? (i := 20) rfl))) (by decide) (t := (.array .byte)) (t' := (.array .int)) (by decide) (by decide)))
      have f1223 := f1207.other W1214 (Ne.symm hn1)
      have f1224 := f1208.other W1214 (Ne.symm hn2)
      have f1225 := f1209.other W1214 (Or.inr (slot_ne (Or.inl (hw _ (List.mem_of_getElem? (i := 69) rfl))) (Or.inl (hw _ (List.mem_of_getElem? (i := 20) rfl))) (by decide) (t := (.array .boolean)) (t' := (.array .int)) (by decide) (by decide)))
      have f1226 := f1210.other W1214 (Or.inr (slot_ne (Or.inl (hw _ (List.mem_of_getElem? (i := 83) rfl))) (Or.inl (hw _ (List.mem_of_getElem? (i := 20) rfl))) (by decide) (t := .int) (t' := (.array .int)) (by decide) (by decide)))
      have f1227 := f1211.other W1214 (Ne.symm hn7)
      have f1228 := f1212.other W1214 (Ne.symm ne1152)
      have f1229 := p1190_1.other W1214 (Ne.symm ne1193)
      have z1230 := Nat.le_trans z1213 (Keep.of_wr W1214).1
      have f1231 : Fld Z h1214 o "com/example/quayside/quayside/Row" "ends" "[I" (.ref b1190) := f1202.same W1214
      have N1214 := Fr.snoc X1214 N1190 hg1
      refine own_Go.of (S' := (T1214.setTop (mkF m 71 #[.val (.ref o), .val (.int (Int32.ofNat i)), .val (.int j)] [(.ref o)]))) (fun t kt => ?_) ?_
      · show Steps p.tables e below (T1214.setTop (mkF m 70 #[.val (.ref o), .val (.int (Int32.ofNat i)), .val (.int j)] [])) _
        refine XS.aloadN X1214.here hx rfl (own_hb hby d8_70) rfl rfl ?_
        exact kt
      obtain ⟨T1232, X1232, e1232, st1232⟩ := getF X1214 hx hZ hown (host := "") (Or.inl (hw _ (List.mem_of_getElem? (i := 17) rfl))) Via.refl e1214 f1218 (g := (mkF m 71 #[.val (.ref o), .val (.int (Int32.ofNat i)), .val (.int j)] [(.ref o)])) rfl rfl (own_hb hby d8_71)
      refine own_Go.of (S' := (T1232.setTop (mkF m 74 #[.val (.ref o), .val (.int (Int32.ofNat i)), .val (.int j)] [(.ref b1149)]))) st1232 ?_
      refine own_Go.of (S' := (T1232.setTop (mkF m 75 #[.val (.ref o), .val (.int (Int32.ofNat i)), .val (.int j)] [(.ref o), (.ref b1149)]))) (fun t kt => ?_) ?_
      · show Steps p.tables e below (T1232.setTop (mkF m 74 #[.val (.ref o), .val (.int (Int32.ofNat i)), .val (.int j)] [(.ref b1149)])) _
        refine XS.aloadN X1232.here hx rfl (own_hb hby d8_74) rfl rfl ?_
        exact kt
      obtain ⟨T1233, X1233, e1233, st1233⟩ := getF X1232 hx hZ hown (host := "") (Or.inl (hw _ (List.mem_of_getElem? (i := 56) rfl))) Via.refl e1232 f1219 (g := (mkF m 75 #[.val (.ref o), .val (.int (Int32.ofNat i)), .val (.int j)] [(.ref o), (.ref b1149)])) rfl rfl (own_hb hby d8_75)
      refine own_Go.of (S' := (T1233.setTop (mkF m 78 #[.val (.ref o), .val (.int (Int32.ofNat i)), .val (.int j)] [(.int (Int32.ofNat k)), (.ref b1149)]))) st1233 ?_
      refine own_Go.of (S' := (T1233.setTop (mkF m 79 #[.val (.ref o), .val (.int (Int32.ofNat i)), .val (.int j)] [(.int (Int32.ofNat i)), (.int (Int32.ofNat k)), (.ref b1149)]))) (fun t kt => ?_) ?_
      · show Steps p.tables e below (T1233.setTop (mkF m 78 #[.val (.ref o), .val (.int (Int32.ofNat i)), .val (.int j)] [(.int (Int32.ofNat k)), (.ref b1149)])) _
        refine XS.iloadN X1233.here hx rfl (own_hb hby d8_78) rfl ?_
        exact kt
      obtain ⟨cl1234, Ar1234, hin1234, ub1234⟩ := own_Ar.put (j := (Int32.ofNat k)) (k := k) f1228 ⟨rfl, by omega⟩
      obtain ⟨T1234, h1234, X1234, e1234, W1234, st1234⟩ := stI X1233 hx hZ e1233 Ar1234 (j := (Int32.ofNat k)) hin1234 (g := (mkF m 79 #[.val (.ref o), .val (.int (Int32.ofNat i)), .val (.int j)] [(.int (Int32.ofNat i)), (.int (Int32.ofNat k)), (.ref b1149)])) rfl rfl (own_hb hby d8_79)
      refine own_Go.of (S' := (T1234.setTop (mkF m 80 #[.val (.ref o), .val (.int (Int32.ofNat i)), .val (.int j)] []))) st1234 ?_
      have kx1235 := kx1215.wr W1234 ne1151
      have f1236 := f1216.wr W1234
      have f1237 := f1217.wr W1234
      have f1238 := f1218.other W1234 (Or.inl ne1152)
      have f1239 := f1231.other W1234 (Or.inl ne1152)
      have f1240 := f1219.other W1234 (Or.inl ne1152)
      have f1241 := f1220.other W1234 (Or.inl ne1152)
      have f1242 := f1221.other W1234 (Or.inl ne1152)
      have f1243 := f1222.other W1234 (Or.inl ne1152)
      have f1244 := f1223.other W1234 ne1153
      have f1245 := f1224.other W1234 ne1154
      have f1246 := f1225.other W1234 (Or.inl ne1152)
      have f1247 := f1226.other W1234 (Or.inl ne1152)
      have f1248 := f1227.other W1234 ne1155
      have f1249 := f1229.other W1234 (Ne.symm ne1197)
      have z1250 := Nat.le_trans z1230 (Keep.of_wr W1234).1
      have f1251 : own_Ar Z h1234 b1149 .int (2 * k) (own_I (own_set (own_cpy gs cap) k (Int32.ofNat i))) := by rw [← own_upI]; exact ub1234 rfl W1234
      have N1234 := Fr.snoc X1234 N1214 gx1150
      refine own_Go.of (S' := (T1234.setTop (mkF m 81 #[.val (.ref o), .val (.int (Int32.ofNat i)), .val (.int j)] [(.ref o)]))) (fun t kt => ?_) ?_
      · show Steps p.tables e below (T1234.setTop (mkF m 80 #[.val (.ref o), .val (.int (Int32.ofNat i)), .val (.int j)] [])) _
        refine XS.aloadN X1234.here hx rfl (own_hb hby d8_80) rfl rfl ?_
        exact kt
      obtain ⟨T1252, X1252, e1252, st1252⟩ := getF X1234 hx hZ hown (host := "") (Or.inl (hw _ (List.mem_of_getElem? (i := 19) rfl))) Via.refl e1234 f1239 (g := (mkF m 81 #[.val (.ref o), .val (.int (Int32.ofNat i)), .val (.int j)] [(.ref o)])) rfl rfl (own_hb hby d8_81)
      refine own_Go.of (S' := (T1252.setTop (mkF m 84 #[.val (.ref o), .val (.int (Int32.ofNat i)), .val (.int j)] [(.ref b1190)]))) st1252 ?_
      refine own_Go.of (S' := (T1252.setTop (mkF m 85 #[.val (.ref o), .val (.int (Int32.ofNat i)), .val (.int j)] [(.ref o), (.ref b1190)]))) (fun t kt => ?_) ?_
      · show Steps p.tables e below (T1252.setTop (mkF m 84 #[.val (.ref o), .val (.int (Int32.ofNat i)), .val (.int j)] [(.ref b1190)])) _
        refine XS.aloadN X1252.here hx rfl (own_hb hby d8_84) rfl rfl ?_
        exact kt
      obtain ⟨T1253, X1253, e1253, st1253⟩ := getF X1252 hx hZ hown (host := "") (Or.inl (hw _ (List.mem_of_getElem? (i := 56) rfl))) Via.refl e1252 f1240 (g := (mkF m 85 #[.val (.ref o), .val (.int (Int32.ofNat i)), .val (.int j)] [(.ref o), (.ref b1190)])) rfl rfl (own_hb hby d8_85)
      refine own_Go.of (S' := (T1253.setTop (mkF m 88 #[.val (.ref o), .val (.int (Int32.ofNat i)), .val (.int j)] [(.int (Int32.ofNat k)), (.ref b1190)]))) st1253 ?_
      refine own_Go.of (S' := (T1253.setTop (mkF m 89 #[.val (.ref o), .val (.int (Int32.ofNat i)), .val (.int j)] [(.int j), (.int (Int32.ofNat k)), (.ref b1190)]))) (fun t kt => ?_) ?_
      · show Steps p.tables e below (T1253.setTop (mkF m 88 #[.val (.ref o), .val (.int (Int32.ofNat i)), .val (.int j)] [(.int (Int32.ofNat k)), (.ref b1190)])) _
        refine XS.iloadN X1253.here hx rfl (own_hb hby d8_88) rfl ?_
        exact kt
      obtain ⟨cl1254, Ar1254, hin1254, ub1254⟩ := own_Ar.put (j := (Int32.ofNat k)) (k := k) f1249 ⟨rfl, by omega⟩
      obtain ⟨T1254, h1254, X1254, e1254, W1254, st1254⟩ := stI X1253 hx hZ e1253 Ar1254 (j := (Int32.ofNat k)) hin1254 (g := (mkF m 89 #[.val (.ref o), .val (.int (Int32.ofNat i)), .val (.int j)] [(.int j), (.int (Int32.ofNat k)), (.ref b1190)])) rfl rfl (own_hb hby d8_89)
      refine own_Go.of (S' := (T1254.setTop (mkF m 90 #[.val (.ref o), .val (.int (Int32.ofNat i)), .val (.int j)] []))) st1254 ?_
      have kx1255 := kx1235.wr W1254 ne1192
      have f1256 := f1236.wr W1254
      have f1257 := f1237.wr W1254
      have f1258 := f1238.other W1254 (Or.inl ne1193)
      have f1259 := f1239.other W1254 (Or.inl ne1193)
      have f1260 := f1240.other W1254 (Or.inl ne1193)
      have f1261 := f1241.other W1254 (Or.inl ne1193)
      have f1262 := f1242.other W1254 (Or.inl ne1193)
      have f1263 := f1243.other W1254 (Or.inl ne1193)
      have f1264 := f1244.other W1254 ne1194
      have f1265 := f1245.other W1254 ne1195
      have f1266 := f1246.other W1254 (Or.inl ne1193)
      have f1267 := f1247.other W1254 (Or.inl ne1193)
      have f1268 := f1248.other W1254 ne1196
      have f1269 := f1251.other W1254 ne1197
      have z1270 := Nat.le_trans z1250 (Keep.of_wr W1254).1
      have f1271 : own_Ar Z h1254 b1190 .int (2 * k) (own_I (own_set (own_cpy ge cap) k j)) := by rw [← own_upI]; exact ub1254 rfl W1254
      have N1254 := Fr.snoc X1254 N1234 gx1191
      refine own_Go.of (S' := (T1254.setTop (mkF m 92 #[.val (.ref o), .val (.int (Int32.ofNat i)), .val (.int j)] [(.ref o), (.ref o)]))) (fun t kt => ?_) ?_
      · show Steps p.tables e below (T1254.setTop (mkF m 90 #[.val (.ref o), .val (.int (Int32.ofNat i)), .val (.int j)] [])) _
        refine XS.aloadN X1254.here hx rfl (own_hb hby d8_90) rfl rfl ?_
        refine XS.dup X1254.here hx rfl (own_hb hby d8_91) rfl rfl ?_
        exact kt
      obtain ⟨T1272, X1272, e1272, st1272⟩ := getF X1254 hx hZ hown (host := "") (Or.inl (hw _ (List.mem_of_getElem? (i := 56) rfl))) Via.refl e1254 f1260 (g := (mkF m 92 #[.val (.ref o), .val (.int (Int32.ofNat i)), .val (.int j)] [(.ref o), (.ref o)])) rfl rfl (own_hb hby d8_92)
      refine own_Go.of (S' := (T1272.setTop (mkF m 95 #[.val (.ref o), .val (.int (Int32.ofNat i)), .val (.int j)] [(.int (Int32.ofNat k)), (.ref o)]))) st1272 ?_
      refine own_Go.of (S' := (T1272.setTop (mkF m 97 #[.val (.ref o), .val (.int (Int32.ofNat i)), .val (.int j)] [(.int (Int32.ofNat (k + 1))), (.ref o)]))) (fun t kt => ?_) ?_
      · show Steps p.tables e below (T1272.setTop (mkF m 95 #[.val (.ref o), .val (.int (Int32.ofNat i)), .val (.int j)] [(.int (Int32.ofNat k)), (.ref o)])) _
        refine XS.iconst X1272.here hx rfl (own_hb hby d8_95) ?_
        refine XS.iadd X1272.here hx rfl (own_hb hby d8_96) rfl ?_
        show Steps p.tables e below (T1272.setTop (mkF m 97 #[.val (.ref o), .val (.int (Int32.ofNat i)), .val (.int j)] [(.int ((Int32.ofNat k) + (1 : Int32))), (.ref o)])) _
        rw [show Int32.ofNat k + (1 : Int32) = Int32.ofNat (k + 1) from own_addN k 1]
        exact kt
      obtain ⟨T1273, h1273, X1273, e1273, W1273, st1273⟩ := putF X1272 hx hZ hown (host := "") (Or.inl (hw _ (List.mem_of_getElem? (i := 56) rfl))) Via.refl e1272 f1260 f1257 (Or.inl (hw _ (List.mem_of_getElem? (i := 57) rfl))) (hw _ (List.mem_of_getElem? (i := 6) rfl)) (ty := .int) (by decide) rfl rfl (g := (mkF m 97 #[.val (.ref o), .val (.int (Int32.ofNat i)), .val (.int j)] [(.int (Int32.ofNat (k + 1))), (.ref o)])) rfl rfl (own_hb hby d8_97)
      refine own_Go.of (S' := (T1273.setTop (mkF m 100 #[.val (.ref o), .val (.int (Int32.ofNat i)), .val (.int j)] []))) st1273 ?_
      have kx1274 := kx1255.wr W1273 hn4
      have f1275 := f1256.wr W1273
      have f1276 := f1257.wr W1273
      have f1277 := f1258.other W1273 (Or.inr (slot_ne (Or.inl (hw _ (List.mem_of_getElem? (i := 18) rfl))) (Or.inl (hw _ (List.mem_of_getElem? (i := 57) rfl))) (by decide) (t := (.array .int)) (t' := .int) (by decide) (by decide)))
      have f1278 := f1259.other W1273 (Or.inr (slot_ne (Or.inl (hw _ (List.mem_of_getElem? (i := 20) rfl))) (Or.inl (hw _ (List.mem_of_getElem? (i := 57) rfl))) (by decide) (t := (.array .int)) (t' := .int) (by decide) (by decide)))
      have f1279 := f1261.other W1273 (Or.inr (slot_ne (Or.inl (hw _ (List.mem_of_getElem? (i := 50) rfl))) (Or.inl (hw _ (List.mem_of_getElem? (i := 57) rfl))) (by decide) (t := .int) (t' := .int) (by decide) (by decide)))
      have f1280 := f1262.other W1273 (Or.inr (slot_ne (Or.inl (hw _ (List.mem_of_getElem? (i := 40) rfl))) (Or.inl (hw _ (List.mem_of_getElem? (i := 57) rfl))) (by decide) (t := .boolean) (t' := .int) (by decide) (by decide)))
      have f1281 := f1263.other W1273 (Or.inr (slot_ne (Or.inl (hw _ (List.mem_of_getElem? (i := 15) rfl))) (Or.inl (hw _ (List.mem_of_getElem? (i := 57) rfl))) (by decide) (t := (.array .byte)) (t' := .int) (by decide) (by decide)))
      have f1282 := f1264.other W1273 (Ne.symm hn1)
      have f1283 := f1265.other W1273 (Ne.symm hn2)
      have f1284 := f1266.other W1273 (Or.inr (slot_ne (Or.inl (hw _ (List.mem_of_getElem? (i := 69) rfl))) (Or.inl (hw _ (List.mem_of_getElem? (i := 57) rfl))) (by decide) (t := (.array .boolean)) (t' := .int) (by decide) (by decide)))
      have f1285 := f1267.other W1273 (Or.inr (slot_ne (Or.inl (hw _ (List.mem_of_getElem? (i := 83) rfl))) (Or.inl (hw _ (List.mem_of_getElem? (i := 57) rfl))) (by decide) (t := .int) (t' := .int) (by decide) (by decide)))
      have f1286 := f1268.other W1273 (Ne.symm hn7)
      have f1287 := f1269.other W1273 (Ne.symm ne1152)
      have f1288 := f1271.other W1273 (Ne.symm ne1193)
      have z1289 := Nat.le_trans z1270 (Keep.of_wr W1273).1
      have f1290 : Fld Z h1273 o "com/example/quayside/quayside/Row" "size" "I" (.int (Int32.ofNat (k + 1))) := f1260.same W1273
      have N1273 := Fr.snoc X1273 N1254 hg1
      refine own_Go.of (S' := (T1273.setTop (mkF m 102 #[.val (.ref o), .val (.int (Int32.ofNat i)), .val (.int j)] [(.ref o), (.ref o)]))) (fun t kt => ?_) ?_
      · show Steps p.tables e below (T1273.setTop (mkF m 100 #[.val (.ref o), .val (.int (Int32.ofNat i)), .val (.int j)] [])) _
        refine XS.aloadN X1273.here hx rfl (own_hb hby d8_100) rfl rfl ?_
        refine XS.aloadN X1273.here hx rfl (own_hb hby d8_101) rfl rfl ?_
        exact kt
      obtain ⟨T1291, X1291, e1291, st1291⟩ := getF X1273 hx hZ hown (host := "") (Or.inl (hw _ (List.mem_of_getElem? (i := 49) rfl))) Via.refl e1273 f1279 (g := (mkF m 102 #[.val (.ref o), .val (.int (Int32.ofNat i)), .val (.int j)] [(.ref o), (.ref o)])) rfl rfl (own_hb hby d8_102)
      refine own_Go.of (S' := (T1291.setTop (mkF m 105 #[.val (.ref o), .val (.int (Int32.ofNat i)), .val (.int j)] [(.int r), (.ref o)]))) st1291 ?_
      refine own_Go.of (S' := (T1291.setTop (mkF m 106 #[.val (.ref o), .val (.int (Int32.ofNat i)), .val (.int j)] [(.int j), (.int r), (.ref o)]))) (fun t kt => ?_) ?_
      · show Steps p.tables e below (T1291.setTop (mkF m 105 #[.val (.ref o), .val (.int (Int32.ofNat i)), .val (.int j)] [(.int r), (.ref o)])) _
        refine XS.iloadN X1291.here hx rfl (own_hb hby d8_105) rfl ?_
        exact kt
      obtain ⟨_, _, ⟨T1292, L1292, k1292, n1292⟩, -, X1292, ⟨Lc1292, hQ1292, l1292, y1292, z1292⟩, st1292⟩ := Jvm.LawKit.callS X1291 hx (y := (⟨"java/lang/Math", "max", "(II)I"⟩ : MethodName)) hown (mvT hZ (hw _ (List.mem_of_getElem? (i := 58) rfl))) (mvT hZ (hw _ (List.mem_of_getElem? (i := 59) rfl))) (mvT hZ (hw _ (List.mem_of_getElem? (i := 60) rfl))) (mvT hZ (hw _ (List.mem_of_getElem? (i := 61) rfl))) (by decide) (backOf (W := 1) (rm9 l Z a0 hw [] r j h1273 n0 z1289 ) hZ (hw _ (List.mem_of_getElem? (i := 61) rfl)) (hw _ (List.mem_of_getElem? (i := 60) rfl)) (by decide) (by decide)) (g := (mkF m 106 #[.val (.ref o), .val (.int (Int32.ofNat i)), .val (.int j)] [(.int j), (.int r), (.ref o)])) rfl (by rw [hml]; rfl) (argsL := [(.int r), (.int j)]) (rest := [(.ref o)]) (lenOf pd_0 rfl) rfl (by show 2 * 0 + _ ≤ _; exact Nat.le_of_eq rfl) (own_hb hby d8_106) (fun _ _ => ⟨rfl, e1291, (by decide : 2 + 0 ≤ _), (by decide : 16 + 0 ≤ _)⟩)
      dsimp only [Pt.U, Pt.locs, Pt.cells, Pt.slots] at X1292 l1292 y1292 z1292 st1292 hQ1292
      subst l1292 y1292 z1292
      obtain ⟨rfl, N1292q, hh1292⟩ := hQ1292
      have N1292 := Fr.app N1273 N1292q
      refine own_Go.of (S' := (T1292.setTop (mkF m 109 #[.val (.ref o), .val (.int (Int32.ofNat i)), .val (.int j)] [(.int (own_maxI r j)), (.ref o)]))) (fun t kt => st1292 t kt) ?_
      obtain ⟨T1293, h1293, X1293, e1293, W1293, st1293⟩ := putF X1292 hx hZ hown (host := "") (Or.inl (hw _ (List.mem_of_getElem? (i := 49) rfl))) Via.refl hh1292 f1279 f1276 (Or.inl (hw _ (List.mem_of_getElem? (i := 50) rfl))) (hw _ (List.mem_of_getElem? (i := 6) rfl)) (ty := .int) (by decide) rfl rfl (g := (mkF m 109 #[.val (.ref o), .val (.int (Int32.ofNat i)), .val (.int j)] [(.int (own_maxI r j)), (.ref o)])) rfl rfl (own_hb hby d8_109)
      refine own_Go.of (S' := (T1293.setTop (mkF m 112 #[.val (.ref o), .val (.int (Int32.ofNat i)), .val (.int j)] []))) st1293 ?_
      have kx1294 := kx1274.wr W1293 hn4
      have f1295 := f1275.wr W1293
      have f1296 := f1276.wr W1293
      have f1297 := f1277.other W1293 (Or.inr (slot_ne (Or.inl (hw _ (List.mem_of_getElem? (i := 18) rfl))) (Or.inl (hw _ (List.mem_of_getElem? (i := 50) rfl))) (by decide) (t := (.array .int)) (t' := .int) (by decide) (by decide)))
      have f1298 := f1278.other W1293 (Or.inr (slot_ne (Or.inl (hw _ (List.mem_of_getElem? (i := 20) rfl))) (Or.inl (hw _ (List.mem_of_getElem? (i := 50) rfl))) (by decide) (t := (.array .int)) (t' := .int) (by decide) (by decide)))
      have f1299 := f1290.other W1293 (Or.inr (slot_ne (Or.inl (hw _ (List.mem_of_getElem? (i := 57) rfl))) (Or.inl (hw _ (List.mem_of_getElem? (i := 50) rfl))) (by decide) (t := .int) (t' := .int) (by decide) (by decide)))
      have f1300 := f1280.other W1293 (Or.inr (slot_ne (Or.inl (hw _ (List.mem_of_getElem? (i := 40) rfl))) (Or.inl (hw _ (List.mem_of_getElem? (i := 50) rfl))) (by decide) (t := .boolean) (t' := .int) (by decide) (by decide)))
      have f1301 := f1281.other W1293 (Or.inr (slot_ne (Or.inl (hw _ (List.mem_of_getElem? (i := 15) rfl))) (Or.inl (hw _ (List.mem_of_getElem? (i := 50) rfl))) (by decide) (t := (.array .byte)) (t' := .int) (by decide) (by decide)))
      have f1302 := f1282.other W1293 (Ne.symm hn1)
      have f1303 := f1283.other W1293 (Ne.symm hn2)
      have f1304 := f1284.other W1293 (Or.inr (slot_ne (Or.inl (hw _ (List.mem_of_getElem? (i := 69) rfl))) (Or.inl (hw _ (List.mem_of_getElem? (i := 50) rfl))) (by decide) (t := (.array .boolean)) (t' := .int) (by decide) (by decide)))
      have f1305 := f1285.other W1293 (Or.inr (slot_ne (Or.inl (hw _ (List.mem_of_getElem? (i := 83) rfl))) (Or.inl (hw _ (List.mem_of_getElem? (i := 50) rfl))) (by decide) (t := .int) (t' := .int) (by decide) (by decide)))
      have f1306 := f1286.other W1293 (Ne.symm hn7)
      have f1307 := f1287.other W1293 (Ne.symm ne1152)
      have f1308 := f1288.other W1293 (Ne.symm ne1193)
      have z1309 := Nat.le_trans z1289 (Keep.of_wr W1293).1
      have f1310 : Fld Z h1293 o "com/example/quayside/quayside/Row" "reach" "I" (.int (own_maxI r j)) := f1279.same W1293
      have N1293 := Fr.snoc X1293 N1292 hg1
      refine own_Go.of (S' := (T1293.setTop (mkF m 114 #[.val (.ref o), .val (.int (Int32.ofNat i)), .val (.int j)] [(.int (0 : Int32)), (.ref o)]))) (fun t kt => ?_) ?_
      · show Steps p.tables e below (T1293.setTop (mkF m 112 #[.val (.ref o), .val (.int (Int32.ofNat i)), .val (.int j)] [])) _
        refine XS.aloadN X1293.here hx rfl (own_hb hby d8_112) rfl rfl ?_
        refine XS.iconst X1293.here hx rfl (own_hb hby d8_113) ?_
        exact kt
      obtain ⟨T1311, h1311, X1311, e1311, W1311, st1311⟩ := putFN X1293 hx hZ hown (hw _ (List.mem_of_getElem? (i := 39) rfl)) Via.refl e1293 f1300 f1296 (Or.inl (hw _ (List.mem_of_getElem? (i := 40) rfl))) (hw _ (List.mem_of_getElem? (i := 6) rfl)) (ty := .boolean) (v' := (.int (nar .boolean (0 : Int32)))) (by decide) rfl (fits_nar_bool _) (g := (mkF m 114 #[.val (.ref o), .val (.int (Int32.ofNat i)), .val (.int j)] [(.int (0 : Int32)), (.ref o)])) rfl rfl (own_hb hby d8_114)
      refine own_Go.of (S' := (T1311.setTop (mkF m 117 #[.val (.ref o), .val (.int (Int32.ofNat i)), .val (.int j)] []))) st1311 ?_
      have kx1312 := kx1294.wr W1311 hn4
      have f1313 := f1295.wr W1311
      have f1314 := f1296.wr W1311
      have f1315 := f1297.other W1311 (Or.inr (slot_ne (Or.inl (hw _ (List.mem_of_getElem? (i := 18) rfl))) (Or.inl (hw _ (List.mem_of_getElem? (i := 40) rfl))) (by decide) (t := (.array .int)) (t' := .boolean) (by decide) (by decide)))
      have f1316 := f1298.other W1311 (Or.inr (slot_ne (Or.inl (hw _ (List.mem_of_getElem? (i := 20) rfl))) (Or.inl (hw _ (List.mem_of_getElem? (i := 40) rfl))) (by decide) (t := (.array .int)) (t' := .boolean) (by decide) (by decide)))
      have f1317 := f1299.other W1311 (Or.inr (slot_ne (Or.inl (hw _ (List.mem_of_getElem? (i := 57) rfl))) (Or.inl (hw _ (List.mem_of_getElem? (i := 40) rfl))) (by decide) (t := .int) (t' := .boolean) (by decide) (by decide)))
      have f1318 := f1310.other W1311 (Or.inr (slot_ne (Or.inl (hw _ (List.mem_of_getElem? (i := 50) rfl))) (Or.inl (hw _ (List.mem_of_getElem? (i := 40) rfl))) (by decide) (t := .int) (t' := .boolean) (by decide) (by decide)))
      have f1319 := f1301.other W1311 (Or.inr (slot_ne (Or.inl (hw _ (List.mem_of_getElem? (i := 15) rfl))) (Or.inl (hw _ (List.mem_of_getElem? (i := 40) rfl))) (by decide) (t := (.array .byte)) (t' := .boolean) (by decide) (by decide)))
      have f1320 := f1302.other W1311 (Ne.symm hn1)
      have f1321 := f1303.other W1311 (Ne.symm hn2)
      have f1322 := f1304.other W1311 (Or.inr (slot_ne (Or.inl (hw _ (List.mem_of_getElem? (i := 69) rfl))) (Or.inl (hw _ (List.mem_of_getElem? (i := 40) rfl))) (by decide) (t := (.array .boolean)) (t' := .boolean) (by decide) (by decide)))
      have f1323 := f1305.other W1311 (Or.inr (slot_ne (Or.inl (hw _ (List.mem_of_getElem? (i := 83) rfl))) (Or.inl (hw _ (List.mem_of_getElem? (i := 40) rfl))) (by decide) (t := .int) (t' := .boolean) (by decide) (by decide)))
      have f1324 := f1306.other W1311 (Ne.symm hn7)
      have f1325 := f1307.other W1311 (Ne.symm ne1152)
      have f1326 := f1308.other W1311 (Ne.symm ne1193)
      have z1327 := Nat.le_trans z1309 (Keep.of_wr W1311).1
      have f1328 : Fld Z h1311 o "com/example/quayside/quayside/Row" "text" "Z" (.int (nar .boolean (0 : Int32))) := f1300.same W1311
      have N1311 := Fr.snoc X1311 N1293 hg1
      have f1329 : Fld Z h1311 o "com/example/quayside/quayside/Row" "text" "Z" (.int (0 : Int32)) := f1328
      exact own_retV X1311 hx hlk hret (own_hb hby d8_117) e1311 ⟨(2 * k), rfl, N1311, kx1312, ⟨b1149, b1190, (own_set (own_cpy gs cap) k (Int32.ofNat i)), (own_set (own_cpy ge cap) k j), (0 : Int32), (own_maxI r j), f1314, f1315, f1316, f1317, f1318, f1329, f1319, f1325, f1326, hg1, gx1150, gx1191, ne1152, ne1193, ne1197, hn4, ne1151, ne1192, (by omega), (by omega), ⟨own_dB (by omega) hge.1, own_Rch.add hge.2 (own_nneg hi hij)⟩, Or.inr ⟨rn, mn, c', g, f1322, f1323, f1324, hg4, hn7, (Ne.symm ne1155), (Ne.symm ne1196), hn10, (by omega), (by omega), (by omega)⟩⟩⟩ (by decide) (by decide)
theorem d2_0 : decode prog_62_method_1_code 0 = .ok (.aload_n 0, 1) := by decide +kernel
theorem d2_1 : decode prog_62_method_1_code 1 = .ok (.invokespecial 1, 3) := by decide +kernel
theorem d2_4 : decode prog_62_method_1_code 4 = .ok (.aload_n 0, 1) := by decide +kernel
theorem d2_5 : decode prog_62_method_1_code 5 = .ok (.iconst 0, 1) := by decide +kernel
theorem d2_6 : decode prog_62_method_1_code 6 = .ok (.newarray .byte, 2) := by decide +kernel
theorem d2_8 : decode prog_62_method_1_code 8 = .ok (.putfield 7, 3) := by decide +kernel
theorem d2_11 : decode prog_62_method_1_code 11 = .ok (.aload_n 0, 1) := by decide +kernel
theorem d2_12 : decode prog_62_method_1_code 12 = .ok (.iconst 4, 1) := by decide +kernel
theorem d2_13 : decode prog_62_method_1_code 13 = .ok (.newarray .int, 2) := by decide +kernel
theorem d2_15 : decode prog_62_method_1_code 15 = .ok (.putfield 13, 3) := by decide +kernel
theorem d2_18 : decode prog_62_method_1_code 18 = .ok (.aload_n 0, 1) := by decide +kernel
theorem d2_19 : decode prog_62_method_1_code 19 = .ok (.iconst 4, 1) := by decide +kernel
theorem d2_20 : decode prog_62_method_1_code 20 = .ok (.newarray .int, 2) := by decide +kernel
theorem d2_22 : decode prog_62_method_1_code 22 = .ok (.putfield 17, 3) := by decide +kernel
theorem d2_25 : decode prog_62_method_1_code 25 = .ok (.return_, 1) := by decide +kernel
theorem pn_2 : plainName "com/example/quayside/quayside/Row" = true := by first | (simp [plainName, overriddenIn]; done) | decide +kernel
def Q_rm2 (Z : State) (o : Addr) (u0 : Value) (u1 : Value) (u2 : Value) (h0 : Heap) (n0 : Nat) (v : Option Value) (h : Heap) (L : List Loc) : Prop := ∃ bs : Addr, ∃ rs : Addr, ∃ re : Addr, v = none ∧ Fr n0 L ∧ Keep h0 h [o] ∧ (h0.size ≤ bs) ∧ (h0.size ≤ rs) ∧ (h0.size ≤ re) ∧ (rs ≠ re) ∧ (Exa Z h o "com/example/quayside/quayside/Row") ∧ (Fld Z h o "com/example/quayside/quayside/Row" "bytes" "[B" (.ref bs)) ∧ (Fld Z h o "com/example/quayside/quayside/Row" "starts" "[I" (.ref rs)) ∧ (Fld Z h o "com/example/quayside/quayside/Row" "ends" "[I" (.ref re)) ∧ (Fld Z h o "com/example/quayside/quayside/Row" "size" "I" (.int (0 : Int32))) ∧ (Fld Z h o "com/example/quayside/quayside/Row" "reach" "I" (.int (0 : Int32))) ∧ (Fld Z h o "com/example/quayside/quayside/Row" "text" "Z" (.int (0 : Int32))) ∧ (Fld Z h o "com/example/quayside/quayside/Row" "nulls" "[Z" .null) ∧ (Fld Z h o "com/example/quayside/quayside/Row" "nullCount" "I" (.int (0 : Int32))) ∧ (own_Ar Z h rs .int 4 (own_I (fun _ => (0 : Int32)))) ∧ (own_Ar Z h re .int 4 (own_I (fun _ => (0 : Int32))))
set_option maxRecDepth 65536 in
set_option maxHeartbeats 40000000 in
theorem rm2 (l : Launch) (Z : State) (a0 : Array Value) (hw : ∀ d ∈ tables_1, d.before a0 Z = true) (ws : List Jvm.Cond) (o : Addr) (u0 : Value) (u1 : Value) (u2 : Value) (h0 : Heap) (n0 : Nat) (Z0 : n0 ≤ h0.size) (pr0 : Exa Z h0 o "com/example/quayside/quayside/Row") (pr1 : Fld Z h0 o "com/example/quayside/quayside/Row" "bytes" "[B" u0) (pr2 : Fld Z h0 o "com/example/quayside/quayside/Row" "starts" "[I" u1) (pr3 : Fld Z h0 o "com/example/quayside/quayside/Row" "ends" "[I" u2) (pr4 : Fld Z h0 o "com/example/quayside/quayside/Row" "size" "I" (.int (0 : Int32))) (pr5 : Fld Z h0 o "com/example/quayside/quayside/Row" "reach" "I" (.int (0 : Int32))) (pr6 : Fld Z h0 o "com/example/quayside/quayside/Row" "text" "Z" (.int (0 : Int32))) (pr7 : Fld Z h0 o "com/example/quayside/quayside/Row" "nulls" "[Z" .null) (pr8 : Fld Z h0 o "com/example/quayside/quayside/Row" "nullCount" "I" (.int (0 : Int32))) (pr9 : n0 ≤ o) :
    own_Met l Z h0 (⟨"com/example/quayside/quayside/Row", "<init>", "()V"⟩ : MethodName) prog_62_method_1_code 1 none ws ({ frames := 1, cells := 3, slots := 8, locals := 12 } : Room) #[(.ref o)] (Q_rm2 Z o u0 u1 u2 h0 n0) := by
  refine own_enter (plainFor_of_name pn_2) ?_
  intro p e s m below meth c T0 X0 hx hby hml hret hlk hown hnm hZ e0
  have N0 := Fr.nil n0
  have kp0 : Keep h0 h0 [o] := Keep.refl h0 _
  rw [show entryFrame m #[(.ref o)] 1 = (mkF m 0 #[.val (.ref o)] []) from by first | (simp [entryFrame, mkF, argsToLocals, Value.category]; done) | rfl]
  refine own_Go.of (S' := (T0.setTop (mkF m 1 #[.val (.ref o)] [(.ref o)]))) (fun t kt => ?_) ?_
  · show Steps p.tables e below (T0.setTop (mkF m 0 #[.val (.ref o)] [])) _
    refine XS.aloadN X0.here hx rfl (own_hb hby d2_0) rfl rfl ?_
    exact kt
  obtain ⟨T1330, X1330, e1330, st1330⟩ := initO X0 hx hZ hown (hw _ (List.mem_of_getElem? (i := 11) rfl)) (hw _ (List.mem_of_getElem? (i := 12) rfl)) (hw _ (List.mem_of_getElem? (i := 13) rfl)) e0 (g := (mkF m 1 #[.val (.ref o)] [(.ref o)])) rfl (by rw [hml]; rfl) rfl (own_hb hby d2_1) (by decide) (W := 0) (by show 2 * 0 + _ ≤ _; exact Nat.le_of_eq rfl) (by decide)
  refine own_Go.of (S' := (T1330.setTop (mkF m 4 #[.val (.ref o)] []))) st1330 ?_
  refine own_Go.of (S' := (T1330.setTop (mkF m 6 #[.val (.ref o)] [(.int (0 : Int32)), (.ref o)]))) (fun t kt => ?_) ?_
  · show Steps p.tables e below (T1330.setTop (mkF m 4 #[.val (.ref o)] [])) _
    refine XS.aloadN X1330.here hx rfl (own_hb hby d2_4) rfl rfl ?_
    refine XS.iconst X1330.here hx rfl (own_hb hby d2_5) ?_
    exact kt
  obtain ⟨T1331, h1331, X1331, e1331, E1331, A1331, st1331⟩ := own_newP X1330 hx hZ (hw _ (List.mem_of_getElem? (i := 4) rfl)) e1330 (g := (mkF m 6 #[.val (.ref o)] [(.int (0 : Int32)), (.ref o)])) rfl (own_hb hby d2_6) rfl (n := 0) (cap := 0) rfl (by decide) (by decide) (by decide) (by decide)
  obtain ⟨b1331, g1331⟩ : ∃ z, z = h0.size := ⟨_, rfl⟩
  rw [← g1331] at A1331 st1331
  have gx1331 : n0 ≤ b1331 := Nat.le_trans Z0 (Nat.le_of_eq g1331.symm)
  have ne1332 : o ≠ b1331 := Nat.ne_of_lt (Nat.lt_of_lt_of_le pr0.lt (Nat.le_of_eq g1331.symm))
  have sz1331 : h0.size ≤ b1331 := Nat.le_trans kp0.1 (Nat.le_of_eq g1331.symm)
  refine own_Go.of (S' := (T1331.setTop (mkF m 8 #[.val (.ref o)] [(.ref b1331), (.ref o)]))) st1331 ?_
  have f1333 := pr0.ext E1331
  have f1334 := pr1.ext E1331
  have f1335 := pr2.ext E1331
  have f1336 := pr3.ext E1331
  have f1337 := pr4.ext E1331
  have f1338 := pr5.ext E1331
  have f1339 := pr6.ext E1331
  have f1340 := pr7.ext E1331
  have f1341 := pr8.ext E1331
  have z1342 := Nat.le_trans Z0 E1331.1
  have kp1343 := kp0.ext E1331
  have f1344 : own_Ar Z h1331 b1331 .byte 0 (own_I (fun _ => (0 : Int32))) := A1331
  obtain ⟨T1345, h1345, X1345, e1345, W1345, st1345⟩ := putF X1331 hx hZ hown (host := "") (Or.inl (hw _ (List.mem_of_getElem? (i := 14) rfl))) Via.refl e1331 f1334 f1333 (Or.inl (hw _ (List.mem_of_getElem? (i := 15) rfl))) (hw _ (List.mem_of_getElem? (i := 6) rfl)) (ty := (.array .byte)) (by decide) rfl rfl (g := (mkF m 8 #[.val (.ref o)] [(.ref b1331), (.ref o)])) rfl rfl (own_hb hby d2_8)
  refine own_Go.of (S' := (T1345.setTop (mkF m 11 #[.val (.ref o)] []))) st1345 ?_
  have f1346 := f1333.wr W1345
  have f1347 := f1335.other W1345 (Or.inr (slot_ne (Or.inl (hw _ (List.mem_of_getElem? (i := 18) rfl))) (Or.inl (hw _ (List.mem_of_getElem? (i := 15) rfl))) (by decide) (t := (.array .int)) (t' := (.array .byte)) (by decide) (by decide)))
  have f1348 := f1336.other W1345 (Or.inr (slot_ne (Or.inl (hw _ (List.mem_of_getElem? (i := 20) rfl))) (Or.inl (hw _ (List.mem_of_getElem? (i := 15) rfl))) (by decide) (t := (.array .int)) (t' := (.array .byte)) (by decide) (by decide)))
  have f1349 := f1337.other W1345 (Or.inr (slot_ne (Or.inl (hw _ (List.mem_of_getElem? (i := 57) rfl))) (Or.inl (hw _ (List.mem_of_getElem? (i := 15) rfl))) (by decide) (t := .int) (t' := (.array .byte)) (by decide) (by decide)))
  have f1350 := f1338.other W1345 (Or.inr (slot_ne (Or.inl (hw _ (List.mem_of_getElem? (i := 50) rfl))) (Or.inl (hw _ (List.mem_of_getElem? (i := 15) rfl))) (by decide) (t := .int) (t' := (.array .byte)) (by decide) (by decide)))
  have f1351 := f1339.other W1345 (Or.inr (slot_ne (Or.inl (hw _ (List.mem_of_getElem? (i := 40) rfl))) (Or.inl (hw _ (List.mem_of_getElem? (i := 15) rfl))) (by decide) (t := .boolean) (t' := (.array .byte)) (by decide) (by decide)))
  have f1352 := f1340.other W1345 (Or.inr (slot_ne (Or.inl (hw _ (List.mem_of_getElem? (i := 69) rfl))) (Or.inl (hw _ (List.mem_of_getElem? (i := 15) rfl))) (by decide) (t := (.array .boolean)) (t' := (.array .byte)) (by decide) (by decide)))
  have f1353 := f1341.other W1345 (Or.inr (slot_ne (Or.inl (hw _ (List.mem_of_getElem? (i := 83) rfl))) (Or.inl (hw _ (List.mem_of_getElem? (i := 15) rfl))) (by decide) (t := .int) (t' := (.array .byte)) (by decide) (by decide)))
  have f1354 := f1344.other W1345 (Ne.symm ne1332)
  have z1355 := Nat.le_trans z1342 (Keep.of_wr W1345).1
  have kp1356 := kp1343.wr W1345 (Or.inl (List.mem_of_getElem? (i := 0) rfl))
  have f1357 : Fld Z h1345 o "com/example/quayside/quayside/Row" "bytes" "[B" (.ref b1331) := f1334.same W1345
  have N1345 := Fr.snoc X1345 N0 pr9
  refine own_Go.of (S' := (T1345.setTop (mkF m 13 #[.val (.ref o)] [(.int (4 : Int32)), (.ref o)]))) (fun t kt => ?_) ?_
  · show Steps p.tables e below (T1345.setTop (mkF m 11 #[.val (.ref o)] [])) _
    refine XS.aloadN X1345.here hx rfl (own_hb hby d2_11) rfl rfl ?_
    refine XS.iconst X1345.here hx rfl (own_hb hby d2_12) ?_
    exact kt
  obtain ⟨T1358, h1358, X1358, e1358, E1358, A1358, st1358⟩ := own_newP X1345 hx hZ (hw _ (List.mem_of_getElem? (i := 16) rfl)) e1345 (g := (mkF m 13 #[.val (.ref o)] [(.int (4 : Int32)), (.ref o)])) rfl (own_hb hby d2_13) rfl (n := 4) (cap := 4) rfl (by decide) (by decide) (by decide) (by decide)
  obtain ⟨b1358, g1358⟩ : ∃ z, z = h1345.size := ⟨_, rfl⟩
  rw [← g1358] at A1358 st1358
  have gx1358 : n0 ≤ b1358 := Nat.le_trans z1355 (Nat.le_of_eq g1358.symm)
  have ne1359 : o ≠ b1358 := Nat.ne_of_lt (Nat.lt_of_lt_of_le f1346.lt (Nat.le_of_eq g1358.symm))
  have ne1360 : b1331 ≠ b1358 := Nat.ne_of_lt (Nat.lt_of_lt_of_le f1354.lt (Nat.le_of_eq g1358.symm))
  have sz1358 : h0.size ≤ b1358 := Nat.le_trans kp1356.1 (Nat.le_of_eq g1358.symm)
  refine own_Go.of (S' := (T1358.setTop (mkF m 15 #[.val (.ref o)] [(.ref b1358), (.ref o)]))) st1358 ?_
  have f1361 := f1346.ext E1358
  have f1362 := f1357.ext E1358
  have f1363 := f1347.ext E1358
  have f1364 := f1348.ext E1358
  have f1365 := f1349.ext E1358
  have f1366 := f1350.ext E1358
  have f1367 := f1351.ext E1358
  have f1368 := f1352.ext E1358
  have f1369 := f1353.ext E1358
  have f1370 := f1354.ext E1358
  have z1371 := Nat.le_trans z1355 E1358.1
  have kp1372 := kp1356.ext E1358
  have f1373 : own_Ar Z h1358 b1358 .int 4 (own_I (fun _ => (0 : Int32))) := A1358
  obtain ⟨T1374, h1374, X1374, e1374, W1374, st1374⟩ := putF X1358 hx hZ hown (host := "") (Or.inl (hw _ (List.mem_of_getElem? (i := 17) rfl))) Via.refl e1358 f1363 f1361 (Or.inl (hw _ (List.mem_of_getElem? (i := 18) rfl))) (hw _ (List.mem_of_getElem? (i := 6) rfl)) (ty := (.array .int)) (by decide) rfl rfl (g := (mkF m 15 #[.val (.ref o)] [(.ref b1358), (.ref o)])) rfl rfl (own_hb hby d2_15)
  refine own_Go.of (S' := (T1374.setTop (mkF m 18 #[.val (.ref o)] []))) st1374 ?_
  have f1375 := f1361.wr W1374
  have f1376 := f1362.other W1374 (Or.inr (slot_ne (Or.inl (hw _ (List.mem_of_getElem? (i := 15) rfl))) (Or.inl (hw _ (List.mem_of_getElem? (i := 18) rfl))) (by decide) (t := (.array .byte)) (t' := (.array .int)) (by decide) (by decide)))
  have f1377 := f1364.other W1374 (Or.inr (slot_ne (Or.inl (hw _ (List.mem_of_getElem? (i := 20) rfl))) (Or.inl (hw _ (List.mem_of_getElem? (i := 18) rfl))) (by decide) (t := (.array .int)) (t' := (.array .int)) (by decide) (by decide)))
  have f1378 := f1365.other W1374 (Or.inr (slot_ne (Or.inl (hw _ (List.mem_of_getElem? (i := 57) rfl))) (Or.inl (hw _ (List.mem_of_getElem? (i := 18) rfl))) (by decide) (t := .int) (t' := (.array .int)) (by decide) (by decide)))
  have f1379 := f1366.other W1374 (Or.inr (slot_ne (Or.inl (hw _ (List.mem_of_getElem? (i := 50) rfl))) (Or.inl (hw _ (List.mem_of_getElem? (i := 18) rfl))) (by decide) (t := .int) (t' := (.array .int)) (by decide) (by decide)))
  have f1380 := f1367.other W1374 (Or.inr (slot_ne (Or.inl (hw _ (List.mem_of_getElem? (i := 40) rfl))) (Or.inl (hw _ (List.mem_of_getElem? (i := 18) rfl))) (by decide) (t := .boolean) (t' := (.array .int)) (by decide) (by decide)))
  have f1381 := f1368.other W1374 (Or.inr (slot_ne (Or.inl (hw _ (List.mem_of_getElem? (i := 69) rfl))) (Or.inl (hw _ (List.mem_of_getElem? (i := 18) rfl))) (by decide) (t := (.array .boolean)) (t' := (.array .int)) (by decide) (by decide)))
  have f1382 := f1369.other W1374 (Or.inr (slot_ne (Or.inl (hw _ (List.mem_of_getElem? (i := 83) rfl))) (Or.inl (hw _ (List.mem_of_getElem? (i := 18) rfl))) (by decide) (t := .int) (t' := (.array .int)) (by decide) (by decide)))
  have f1383 := f1370.other W1374 (Ne.symm ne1332)
  have f1384 := f1373.other W1374 (Ne.symm ne1359)
  have z1385 := Nat.le_trans z1371 (Keep.of_wr W1374).1
  have kp1386 := kp1372.wr W1374 (Or.inl (List.mem_of_getElem? (i := 0) rfl))
  have f1387 : Fld Z h1374 o "com/example/quayside/quayside/Row" "starts" "[I" (.ref b1358) := f1363.same W1374
  have N1374 := Fr.snoc X1374 N1345 pr9
  refine own_Go.of (S' := (T1374.setTop (mkF m 20 #[.val (.ref o)] [(.int (4 : Int32)), (.ref o)]))) (fun t kt => ?_) ?_
  · show Steps p.tables e below (T1374.setTop (mkF m 18 #[.val (.ref o)] [])) _
    refine XS.aloadN X1374.here hx rfl (own_hb hby d2_18) rfl rfl ?_
    refine XS.iconst X1374.here hx rfl (own_hb hby d2_19) ?_
    exact kt
  obtain ⟨T1388, h1388, X1388, e1388, E1388, A1388, st1388⟩ := own_newP X1374 hx hZ (hw _ (List.mem_of_getElem? (i := 16) rfl)) e1374 (g := (mkF m 20 #[.val (.ref o)] [(.int (4 : Int32)), (.ref o)])) rfl (own_hb hby d2_20) rfl (n := 4) (cap := 4) rfl (by decide) (by decide) (by decide) (by decide)
  obtain ⟨b1388, g1388⟩ : ∃ z, z = h1374.size := ⟨_, rfl⟩
  rw [← g1388] at A1388 st1388
  have gx1388 : n0 ≤ b1388 := Nat.le_trans z1385 (Nat.le_of_eq g1388.symm)
  have ne1389 : o ≠ b1388 := Nat.ne_of_lt (Nat.lt_of_lt_of_le f1375.lt (Nat.le_of_eq g1388.symm))
  have ne1390 : b1331 ≠ b1388 := Nat.ne_of_lt (Nat.lt_of_lt_of_le f1383.lt (Nat.le_of_eq g1388.symm))
  have ne1391 : b1358 ≠ b1388 := Nat.ne_of_lt (Nat.lt_of_lt_of_le f1384.lt (Nat.le_of_eq g1388.symm))
  have sz1388 : h0.size ≤ b1388 := Nat.le_trans kp1386.1 (Nat.le_of_eq g1388.symm)
  refine own_Go.of (S' := (T1388.setTop (mkF m 22 #[.val (.ref o)] [(.ref b1388), (.ref o)]))) st1388 ?_
  have f1392 := f1375.ext E1388
  have f1393 := f1376.ext E1388
  have f1394 := f1387.ext E1388
  have f1395 := f1377.ext E1388
  have f1396 := f1378.ext E1388
  have f1397 := f1379.ext E1388
  have f1398 := f1380.ext E1388
  have f1399 := f1381.ext E1388
  have f1400 := f1382.ext E1388
  have f1401 := f1383.ext E1388
  have f1402 := f1384.ext E1388
  have z1403 := Nat.le_trans z1385 E1388.1
  have kp1404 := kp1386.ext E1388
  have f1405 : own_Ar Z h1388 b1388 .int 4 (own_I (fun _ => (0 : Int32))) := A1388
  obtain ⟨T1406, h1406, X1406, e1406, W1406, st1406⟩ := putF X1388 hx hZ hown (host := "") (Or.inl (hw _ (List.mem_of_getElem? (i := 19) rfl))) Via.refl e1388 f1395 f1392 (Or.inl (hw _ (List.mem_of_getElem? (i := 20) rfl))) (hw _ (List.mem_of_getElem? (i := 6) rfl)) (ty := (.array .int)) (by decide) rfl rfl (g := (mkF m 22 #[.val (.ref o)] [(.ref b1388), (.ref o)])) rfl rfl (own_hb hby d2_22)
  refine own_Go.of (S' := (T1406.setTop (mkF m 25 #[.val (.ref o)] []))) st1406 ?_
  have f1407 := f1392.wr W1406
  have f1408 := f1393.other W1406 (Or.inr (slot_ne (Or.inl (hw _ (List.mem_of_getElem? (i := 15) rfl))) (Or.inl (hw _ (List.mem_of_getElem? (i := 20) rfl))) (by decide) (t := (.array .byte)) (t' := (.array .int)) (by decide) (by decide)))
  have f1409 := f1394.other W1406 (Or.inr (slot_ne (Or.inl (hw _ (List.mem_of_getElem? (i := 18) rfl))) (Or.inl (hw _ (List.mem_of_getElem? (i := 20) rfl))) (by decide) (t := (.array .int)) (t' := (.array .int)) (by decide) (by decide)))
  have f1410 := f1396.other W1406 (Or.inr (slot_ne (Or.inl (hw _ (List.mem_of_getElem? (i := 57) rfl))) (Or.inl (hw _ (List.mem_of_getElem? (i := 20) rfl))) (by decide) (t := .int) (t' := (.array .int)) (by decide) (by decide)))
  have f1411 := f1397.other W1406 (Or.inr (slot_ne (Or.inl (hw _ (List.mem_of_getElem? (i := 50) rfl))) (Or.inl (hw _ (List.mem_of_getElem? (i := 20) rfl))) (by decide) (t := .int) (t' := (.array .int)) (by decide) (by decide)))
  have f1412 := f1398.other W1406 (Or.inr (slot_ne (Or.inl (hw _ (List.mem_of_getElem? (i := 40) rfl))) (Or.inl (hw _ (List.mem_of_getElem? (i := 20) rfl))) (by decide) (t := .boolean) (t' := (.array .int)) (by decide) (by decide)))
  have f1413 := f1399.other W1406 (Or.inr (slot_ne (Or.inl (hw _ (List.mem_of_getElem? (i := 69) rfl))) (Or.inl (hw _ (List.mem_of_getElem? (i := 20) rfl))) (by decide) (t := (.array .boolean)) (t' := (.array .int)) (by decide) (by decide)))
  have f1414 := f1400.other W1406 (Or.inr (slot_ne (Or.inl (hw _ (List.mem_of_getElem? (i := 83) rfl))) (Or.inl (hw _ (List.mem_of_getElem? (i := 20) rfl))) (by decide) (t := .int) (t' := (.array .int)) (by decide) (by decide)))
  have f1415 := f1401.other W1406 (Ne.symm ne1332)
  have f1416 := f1402.other W1406 (Ne.symm ne1359)
  have f1417 := f1405.other W1406 (Ne.symm ne1389)
  have z1418 := Nat.le_trans z1403 (Keep.of_wr W1406).1
  have kp1419 := kp1404.wr W1406 (Or.inl (List.mem_of_getElem? (i := 0) rfl))
  have f1420 : Fld Z h1406 o "com/example/quayside/quayside/Row" "ends" "[I" (.ref b1388) := f1395.same W1406
  have N1406 := Fr.snoc X1406 N1374 pr9
  exact own_retV X1406 hx hlk hret (own_hb hby d2_25) e1406 ⟨b1331, b1358, b1388, rfl, N1406, kp1419, sz1331, sz1358, sz1388, ne1391, f1407, f1408, f1409, f1420, f1410, f1411, f1412, f1413, f1414, f1416, f1417⟩ (by decide) (by decide)
theorem d14_0 : decode prog_62_method_2_code 0 = .ok (.aload_n 0, 1) := by decide +kernel
theorem d14_1 : decode prog_62_method_2_code 1 = .ok (.getfield 20, 3) := by decide +kernel
theorem d14_4 : decode prog_62_method_2_code 4 = .ok (.ifCond .le 16, 3) := by decide +kernel
theorem d14_7 : decode prog_62_method_2_code 7 = .ok (.aload_n 0, 1) := by decide +kernel
theorem d14_8 : decode prog_62_method_2_code 8 = .ok (.getfield 24, 3) := by decide +kernel
theorem d14_11 : decode prog_62_method_2_code 11 = .ok (.iconst 0, 1) := by decide +kernel
theorem d14_12 : decode prog_62_method_2_code 12 = .ok (.invokestatic 28, 3) := by decide +kernel
theorem d14_15 : decode prog_62_method_2_code 15 = .ok (.aload_n 0, 1) := by decide +kernel
theorem d14_16 : decode prog_62_method_2_code 16 = .ok (.iconst 0, 1) := by decide +kernel
theorem d14_17 : decode prog_62_method_2_code 17 = .ok (.putfield 20, 3) := by decide +kernel
theorem d14_20 : decode prog_62_method_2_code 20 = .ok (.aload_n 0, 1) := by decide +kernel
theorem d14_21 : decode prog_62_method_2_code 21 = .ok (.iconst 0, 1) := by decide +kernel
theorem d14_22 : decode prog_62_method_2_code 22 = .ok (.putfield 34, 3) := by decide +kernel
theorem d14_25 : decode prog_62_method_2_code 25 = .ok (.aload_n 0, 1) := by decide +kernel
theorem d14_26 : decode prog_62_method_2_code 26 = .ok (.iconst 0, 1) := by decide +kernel
theorem d14_27 : decode prog_62_method_2_code 27 = .ok (.putfield 37, 3) := by decide +kernel
theorem d14_30 : decode prog_62_method_2_code 30 = .ok (.aload_n 0, 1) := by decide +kernel
theorem d14_31 : decode prog_62_method_2_code 31 = .ok (.iconst 0, 1) := by decide +kernel
theorem d14_32 : decode prog_62_method_2_code 32 = .ok (.putfield 40, 3) := by decide +kernel
theorem d14_35 : decode prog_62_method_2_code 35 = .ok (.return_, 1) := by decide +kernel
theorem pn_14 : plainName "com/example/quayside/quayside/Row" = true := by first | (simp [plainName, overriddenIn]; done) | decide +kernel
def Q_rm14 (Z : State) (o : Addr) (bs : Addr) (rs : Addr) (re : Addr) (u1 : Value) (u2 : Value) (u3 : Value) (h0 : Heap) (n0 : Nat) (v : Option Value) (h : Heap) (L : List Loc) : Prop := v = none ∧ Fr n0 L ∧ Keep h0 h [o] ∧ (Exa Z h o "com/example/quayside/quayside/Row") ∧ (Fld Z h o "com/example/quayside/quayside/Row" "bytes" "[B" (.ref bs)) ∧ (Fld Z h o "com/example/quayside/quayside/Row" "starts" "[I" (.ref rs)) ∧ (Fld Z h o "com/example/quayside/quayside/Row" "ends" "[I" (.ref re)) ∧ (Fld Z h o "com/example/quayside/quayside/Row" "size" "I" (.int (0 : Int32))) ∧ (Fld Z h o "com/example/quayside/quayside/Row" "reach" "I" (.int (0 : Int32))) ∧ (Fld Z h o "com/example/quayside/quayside/Row" "text" "Z" (.int (0 : Int32))) ∧ (Fld Z h o "com/example/quayside/quayside/Row" "nulls" "[Z" .null) ∧ (Fld Z h o "com/example/quayside/quayside/Row" "nullCount" "I" (.int (0 : Int32)))
set_option maxRecDepth 65536 in
set_option maxHeartbeats 40000000 in
theorem rm14 (l : Launch) (Z : State) (a0 : Array Value) (hw : ∀ d ∈ tables_1, d.before a0 Z = true) (ws : List Jvm.Cond) (o : Addr) (bs : Addr) (rs : Addr) (re : Addr) (u1 : Value) (u2 : Value) (u3 : Value) (h0 : Heap) (n0 : Nat) (Z0 : n0 ≤ h0.size) (pr0 : Exa Z h0 o "com/example/quayside/quayside/Row") (pr1 : Fld Z h0 o "com/example/quayside/quayside/Row" "bytes" "[B" (.ref bs)) (pr2 : Fld Z h0 o "com/example/quayside/quayside/Row" "starts" "[I" (.ref rs)) (pr3 : Fld Z h0 o "com/example/quayside/quayside/Row" "ends" "[I" (.ref re)) (pr4 : Fld Z h0 o "com/example/quayside/quayside/Row" "size" "I" u1) (pr5 : Fld Z h0 o "com/example/quayside/quayside/Row" "reach" "I" u2) (pr6 : Fld Z h0 o "com/example/quayside/quayside/Row" "text" "Z" u3) (pr7 : Fld Z h0 o "com/example/quayside/quayside/Row" "nulls" "[Z" .null) (pr8 : Fld Z h0 o "com/example/quayside/quayside/Row" "nullCount" "I" (.int (0 : Int32))) (pr9 : n0 ≤ o) :
    own_Met l Z h0 (⟨"com/example/quayside/quayside/Row", "clear", "()V"⟩ : MethodName) prog_62_method_2_code 1 none ws ({ frames := 0, cells := 0, slots := 0, locals := 0 } : Room) #[(.ref o)] (Q_rm14 Z o bs rs re u1 u2 u3 h0 n0) := by
  refine own_enter (plainFor_of_name pn_14) ?_
  intro p e s m below meth c T0 X0 hx hby hml hret hlk hown hnm hZ e0
  have N0 := Fr.nil n0
  have kp0 : Keep h0 h0 [o] := Keep.refl h0 _
  rw [show entryFrame m #[(.ref o)] 1 = (mkF m 0 #[.val (.ref o)] []) from by first | (simp [entryFrame, mkF, argsToLocals, Value.category]; done) | rfl]
  refine own_Go.of (S' := (T0.setTop (mkF m 1 #[.val (.ref o)] [(.ref o)]))) (fun t kt => ?_) ?_
  · show Steps p.tables e below (T0.setTop (mkF m 0 #[.val (.ref o)] [])) _
    refine XS.aloadN X0.here hx rfl (own_hb hby d14_0) rfl rfl ?_
    exact kt
  obtain ⟨T1421, X1421, e1421, st1421⟩ := getF X0 hx hZ hown (host := "") (Or.inl (hw _ (List.mem_of_getElem? (i := 82) rfl))) Via.refl e0 pr8 (g := (mkF m 1 #[.val (.ref o)] [(.ref o)])) rfl rfl (own_hb hby d14_1)
  refine own_Go.of (S' := (T1421.setTop (mkF m 4 #[.val (.ref o)] [(.int (0 : Int32))]))) st1421 ?_
  refine own_Go.of (S' := (T1421.setTop (mkF m 22 #[.val (.ref o)] [(.int (0 : Int32)), (.ref o)]))) (fun t kt => ?_) ?_
  · show Steps p.tables e below (T1421.setTop (mkF m 4 #[.val (.ref o)] [(.int (0 : Int32))])) _
    refine XS.ifYes X1421.here hx rfl (pc0 := 4) (pc' := 20) rfl (own_hb hby d14_4) rfl ((if0 _ _).trans (flt (by decide : ¬ ((0 : Int32) < (0 : Int32)))).2.2.2) (by decide) (by decide) ?_
    refine XS.aloadN X1421.here hx rfl (own_hb hby d14_20) rfl rfl ?_
    refine XS.iconst X1421.here hx rfl (own_hb hby d14_21) ?_
    exact kt
  obtain ⟨T1422, h1422, X1422, e1422, W1422, st1422⟩ := putF X1421 hx hZ hown (host := "") (Or.inl (hw _ (List.mem_of_getElem? (i := 56) rfl))) Via.refl e1421 pr4 pr0 (Or.inl (hw _ (List.mem_of_getElem? (i := 57) rfl))) (hw _ (List.mem_of_getElem? (i := 6) rfl)) (ty := .int) (by decide) rfl rfl (g := (mkF m 22 #[.val (.ref o)] [(.int (0 : Int32)), (.ref o)])) rfl rfl (own_hb hby d14_22)
  refine own_Go.of (S' := (T1422.setTop (mkF m 25 #[.val (.ref o)] []))) st1422 ?_
  have f1423 := pr0.wr W1422
  have f1424 := pr1.other W1422 (Or.inr (slot_ne (Or.inl (hw _ (List.mem_of_getElem? (i := 15) rfl))) (Or.inl (hw _ (List.mem_of_getElem? (i := 57) rfl))) (by decide) (t := (.array .byte)) (t' := .int) (by decide) (by decide)))
  have f1425 := pr2.other W1422 (Or.inr (slot_ne (Or.inl (hw _ (List.mem_of_getElem? (i := 18) rfl))) (Or.inl (hw _ (List.mem_of_getElem? (i := 57) rfl))) (by decide) (t := (.array .int)) (t' := .int) (by decide) (by decide)))
  have f1426 := pr3.other W1422 (Or.inr (slot_ne (Or.inl (hw _ (List.mem_of_getElem? (i := 20) rfl))) (Or.inl (hw _ (List.mem_of_getElem? (i := 57) rfl))) (by decide) (t := (.array .int)) (t' := .int) (by decide) (by decide)))
  have f1427 := pr5.other W1422 (Or.inr (slot_ne (Or.inl (hw _ (List.mem_of_getElem? (i := 50) rfl))) (Or.inl (hw _ (List.mem_of_getElem? (i := 57) rfl))) (by decide) (t := .int) (t' := .int) (by decide) (by decide)))
  have f1428 := pr6.other W1422 (Or.inr (slot_ne (Or.inl (hw _ (List.mem_of_getElem? (i := 40) rfl))) (Or.inl (hw _ (List.mem_of_getElem? (i := 57) rfl))) (by decide) (t := .boolean) (t' := .int) (by decide) (by decide)))
  have f1429 := pr7.other W1422 (Or.inr (slot_ne (Or.inl (hw _ (List.mem_of_getElem? (i := 69) rfl))) (Or.inl (hw _ (List.mem_of_getElem? (i := 57) rfl))) (by decide) (t := (.array .boolean)) (t' := .int) (by decide) (by decide)))
  have f1430 := pr8.other W1422 (Or.inr (slot_ne (Or.inl (hw _ (List.mem_of_getElem? (i := 83) rfl))) (Or.inl (hw _ (List.mem_of_getElem? (i := 57) rfl))) (by decide) (t := .int) (t' := .int) (by decide) (by decide)))
  have z1431 := Nat.le_trans Z0 (Keep.of_wr W1422).1
  have kp1432 := kp0.wr W1422 (Or.inl (List.mem_of_getElem? (i := 0) rfl))
  have f1433 : Fld Z h1422 o "com/example/quayside/quayside/Row" "size" "I" (.int (0 : Int32)) := pr4.same W1422
  have N1422 := Fr.snoc X1422 N0 pr9
  refine own_Go.of (S' := (T1422.setTop (mkF m 27 #[.val (.ref o)] [(.int (0 : Int32)), (.ref o)]))) (fun t kt => ?_) ?_
  · show Steps p.tables e below (T1422.setTop (mkF m 25 #[.val (.ref o)] [])) _
    refine XS.aloadN X1422.here hx rfl (own_hb hby d14_25) rfl rfl ?_
    refine XS.iconst X1422.here hx rfl (own_hb hby d14_26) ?_
    exact kt
  obtain ⟨T1434, h1434, X1434, e1434, W1434, st1434⟩ := putF X1422 hx hZ hown (host := "") (Or.inl (hw _ (List.mem_of_getElem? (i := 49) rfl))) Via.refl e1422 f1427 f1423 (Or.inl (hw _ (List.mem_of_getElem? (i := 50) rfl))) (hw _ (List.mem_of_getElem? (i := 6) rfl)) (ty := .int) (by decide) rfl rfl (g := (mkF m 27 #[.val (.ref o)] [(.int (0 : Int32)), (.ref o)])) rfl rfl (own_hb hby d14_27)
  refine own_Go.of (S' := (T1434.setTop (mkF m 30 #[.val (.ref o)] []))) st1434 ?_
  have f1435 := f1423.wr W1434
  have f1436 := f1424.other W1434 (Or.inr (slot_ne (Or.inl (hw _ (List.mem_of_getElem? (i := 15) rfl))) (Or.inl (hw _ (List.mem_of_getElem? (i := 50) rfl))) (by decide) (t := (.array .byte)) (t' := .int) (by decide) (by decide)))
  have f1437 := f1425.other W1434 (Or.inr (slot_ne (Or.inl (hw _ (List.mem_of_getElem? (i := 18) rfl))) (Or.inl (hw _ (List.mem_of_getElem? (i := 50) rfl))) (by decide) (t := (.array .int)) (t' := .int) (by decide) (by decide)))
  have f1438 := f1426.other W1434 (Or.inr (slot_ne (Or.inl (hw _ (List.mem_of_getElem? (i := 20) rfl))) (Or.inl (hw _ (List.mem_of_getElem? (i := 50) rfl))) (by decide) (t := (.array .int)) (t' := .int) (by decide) (by decide)))
  have f1439 := f1433.other W1434 (Or.inr (slot_ne (Or.inl (hw _ (List.mem_of_getElem? (i := 57) rfl))) (Or.inl (hw _ (List.mem_of_getElem? (i := 50) rfl))) (by decide) (t := .int) (t' := .int) (by decide) (by decide)))
  have f1440 := f1428.other W1434 (Or.inr (slot_ne (Or.inl (hw _ (List.mem_of_getElem? (i := 40) rfl))) (Or.inl (hw _ (List.mem_of_getElem? (i := 50) rfl))) (by decide) (t := .boolean) (t' := .int) (by decide) (by decide)))
  have f1441 := f1429.other W1434 (Or.inr (slot_ne (Or.inl (hw _ (List.mem_of_getElem? (i := 69) rfl))) (Or.inl (hw _ (List.mem_of_getElem? (i := 50) rfl))) (by decide) (t := (.array .boolean)) (t' := .int) (by decide) (by decide)))
  have f1442 := f1430.other W1434 (Or.inr (slot_ne (Or.inl (hw _ (List.mem_of_getElem? (i := 83) rfl))) (Or.inl (hw _ (List.mem_of_getElem? (i := 50) rfl))) (by decide) (t := .int) (t' := .int) (by decide) (by decide)))
  have z1443 := Nat.le_trans z1431 (Keep.of_wr W1434).1
  have kp1444 := kp1432.wr W1434 (Or.inl (List.mem_of_getElem? (i := 0) rfl))
  have f1445 : Fld Z h1434 o "com/example/quayside/quayside/Row" "reach" "I" (.int (0 : Int32)) := f1427.same W1434
  have N1434 := Fr.snoc X1434 N1422 pr9
  refine own_Go.of (S' := (T1434.setTop (mkF m 32 #[.val (.ref o)] [(.int (0 : Int32)), (.ref o)]))) (fun t kt => ?_) ?_
  · show Steps p.tables e below (T1434.setTop (mkF m 30 #[.val (.ref o)] [])) _
    refine XS.aloadN X1434.here hx rfl (own_hb hby d14_30) rfl rfl ?_
    refine XS.iconst X1434.here hx rfl (own_hb hby d14_31) ?_
    exact kt
  obtain ⟨T1446, h1446, X1446, e1446, W1446, st1446⟩ := putFN X1434 hx hZ hown (hw _ (List.mem_of_getElem? (i := 39) rfl)) Via.refl e1434 f1440 f1435 (Or.inl (hw _ (List.mem_of_getElem? (i := 40) rfl))) (hw _ (List.mem_of_getElem? (i := 6) rfl)) (ty := .boolean) (v' := (.int (nar .boolean (0 : Int32)))) (by decide) rfl (fits_nar_bool _) (g := (mkF m 32 #[.val (.ref o)] [(.int (0 : Int32)), (.ref o)])) rfl rfl (own_hb hby d14_32)
  refine own_Go.of (S' := (T1446.setTop (mkF m 35 #[.val (.ref o)] []))) st1446 ?_
  have f1447 := f1435.wr W1446
  have f1448 := f1436.other W1446 (Or.inr (slot_ne (Or.inl (hw _ (List.mem_of_getElem? (i := 15) rfl))) (Or.inl (hw _ (List.mem_of_getElem? (i := 40) rfl))) (by decide) (t := (.array .byte)) (t' := .boolean) (by decide) (by decide)))
  have f1449 := f1437.other W1446 (Or.inr (slot_ne (Or.inl (hw _ (List.mem_of_getElem? (i := 18) rfl))) (Or.inl (hw _ (List.mem_of_getElem? (i := 40) rfl))) (by decide) (t := (.array .int)) (t' := .boolean) (by decide) (by decide)))
  have f1450 := f1438.other W1446 (Or.inr (slot_ne (Or.inl (hw _ (List.mem_of_getElem? (i := 20) rfl))) (Or.inl (hw _ (List.mem_of_getElem? (i := 40) rfl))) (by decide) (t := (.array .int)) (t' := .boolean) (by decide) (by decide)))
  have f1451 := f1439.other W1446 (Or.inr (slot_ne (Or.inl (hw _ (List.mem_of_getElem? (i := 57) rfl))) (Or.inl (hw _ (List.mem_of_getElem? (i := 40) rfl))) (by decide) (t := .int) (t' := .boolean) (by decide) (by decide)))
  have f1452 := f1445.other W1446 (Or.inr (slot_ne (Or.inl (hw _ (List.mem_of_getElem? (i := 50) rfl))) (Or.inl (hw _ (List.mem_of_getElem? (i := 40) rfl))) (by decide) (t := .int) (t' := .boolean) (by decide) (by decide)))
  have f1453 := f1441.other W1446 (Or.inr (slot_ne (Or.inl (hw _ (List.mem_of_getElem? (i := 69) rfl))) (Or.inl (hw _ (List.mem_of_getElem? (i := 40) rfl))) (by decide) (t := (.array .boolean)) (t' := .boolean) (by decide) (by decide)))
  have f1454 := f1442.other W1446 (Or.inr (slot_ne (Or.inl (hw _ (List.mem_of_getElem? (i := 83) rfl))) (Or.inl (hw _ (List.mem_of_getElem? (i := 40) rfl))) (by decide) (t := .int) (t' := .boolean) (by decide) (by decide)))
  have z1455 := Nat.le_trans z1443 (Keep.of_wr W1446).1
  have kp1456 := kp1444.wr W1446 (Or.inl (List.mem_of_getElem? (i := 0) rfl))
  have f1457 : Fld Z h1446 o "com/example/quayside/quayside/Row" "text" "Z" (.int (nar .boolean (0 : Int32))) := f1440.same W1446
  have N1446 := Fr.snoc X1446 N1434 pr9
  have f1458 : Fld Z h1446 o "com/example/quayside/quayside/Row" "text" "Z" (.int (0 : Int32)) := f1457
  exact own_retV X1446 hx hlk hret (own_hb hby d14_35) e1446 ⟨rfl, N1446, kp1456, f1447, f1448, f1449, f1450, f1451, f1452, f1458, f1453, f1454⟩ (by decide) (by decide)
theorem d5_0 : decode jdk_31_method_11_code 0 = .ok (.aload_n 0, 1) := by decide +kernel
theorem d5_1 : decode jdk_31_method_11_code 1 = .ok (.ifnonnull 12, 3) := by decide +kernel
theorem d5_4 : decode jdk_31_method_11_code 4 = .ok (.new 84, 3) := by decide +kernel
theorem d5_7 : decode jdk_31_method_11_code 7 = .ok (.dup, 1) := by decide +kernel
theorem d5_8 : decode jdk_31_method_11_code 8 = .ok (.aload_n 1, 1) := by decide +kernel
theorem d5_9 : decode jdk_31_method_11_code 9 = .ok (.invokespecial 87, 3) := by decide +kernel
theorem d5_12 : decode jdk_31_method_11_code 12 = .ok (.athrow, 1) := by decide +kernel
theorem d5_13 : decode jdk_31_method_11_code 13 = .ok (.aload_n 0, 1) := by decide +kernel
theorem d5_14 : decode jdk_31_method_11_code 14 = .ok (.areturn, 1) := by decide +kernel
theorem pn_5 : plainName "java/util/Objects" = true := by first | (simp [plainName, overriddenIn]; done) | decide +kernel
def Q_rm5 (Z : State) (i : Addr) (j : Addr) (h0 : Heap) (n0 : Nat) (v : Option Value) (h : Heap) (L : List Loc) : Prop := v = some (.ref i) ∧ Fr n0 L ∧ h = h0
set_option maxRecDepth 65536 in
set_option maxHeartbeats 40000000 in
theorem rm5 (l : Launch) (Z : State) (a0 : Array Value) (hw : ∀ d ∈ tables_1, d.before a0 Z = true) (ws : List Jvm.Cond) (i : Addr) (j : Addr) (h0 : Heap) (n0 : Nat) (Z0 : n0 ≤ h0.size)  :
    own_Met l Z h0 (⟨"java/util/Objects", "requireNonNull", "(Ljava/lang/Object;Ljava/lang/String;)Ljava/lang/Object;"⟩ : MethodName) jdk_31_method_11_code 2 (some (.object "java/lang/Object")) ws ({ frames := 0, cells := 0, slots := 0, locals := 0 } : Room) #[(.ref i), (.ref j)] (Q_rm5 Z i j h0 n0) := by
  refine own_enter (plainFor_of_name pn_5) ?_
  intro p e s m below meth c T0 X0 hx hby hml hret hlk hown hnm hZ e0
  have N0 := Fr.nil n0
  rw [show entryFrame m #[(.ref i), (.ref j)] 2 = (mkF m 0 #[.val (.ref i), .val (.ref j)] []) from by first | (simp [entryFrame, mkF, argsToLocals, Value.category]; done) | rfl]
  refine own_Go.of (S' := (T0.setTop (mkF m 14 #[.val (.ref i), .val (.ref j)] [(.ref i)]))) (fun t kt => ?_) ?_
  · show Steps p.tables e below (T0.setTop (mkF m 0 #[.val (.ref i), .val (.ref j)] [])) _
    refine XS.aloadN X0.here hx rfl (own_hb hby d5_0) rfl rfl ?_
    refine XS.ifnonnullYes X0.here hx rfl (pc0 := 1) (pc' := 13) rfl (own_hb hby d5_1) rfl (by decide) (by decide) ?_
    refine XS.aloadN X0.here hx rfl (own_hb hby d5_13) rfl rfl ?_
    exact kt
  exact own_retA X0 hx hlk hret rfl rfl (own_hb hby d5_14) e0 ⟨rfl, N0, rfl⟩ (by decide) (by decide)
theorem d4_0 : decode prog_62_method_5_code 0 = .ok (.aload_n 0, 1) := by decide +kernel
theorem d4_1 : decode prog_62_method_5_code 1 = .ok (.aload_n 1, 1) := by decide +kernel
theorem d4_2 : decode prog_62_method_5_code 2 = .ok (.ldc 70, 2) := by decide +kernel
theorem d4_4 : decode prog_62_method_5_code 4 = .ok (.invokestatic 72, 3) := by decide +kernel
theorem d4_7 : decode prog_62_method_5_code 7 = .ok (.checkcast 78, 3) := by decide +kernel
theorem d4_10 : decode prog_62_method_5_code 10 = .ok (.putfield 7, 3) := by decide +kernel
theorem d4_13 : decode prog_62_method_5_code 13 = .ok (.aload_n 0, 1) := by decide +kernel
theorem d4_14 : decode prog_62_method_5_code 14 = .ok (.iconst 0, 1) := by decide +kernel
theorem d4_15 : decode prog_62_method_5_code 15 = .ok (.putfield 40, 3) := by decide +kernel
theorem d4_18 : decode prog_62_method_5_code 18 = .ok (.return_, 1) := by decide +kernel
theorem pn_4 : plainName "com/example/quayside/quayside/Row" = true := by first | (simp [plainName, overriddenIn]; done) | decide +kernel
theorem pd_4 : parseMethodDescriptor "(Ljava/lang/Object;Ljava/lang/String;)Ljava/lang/Object;" = some ⟨[(.object "java/lang/Object"), (.object "java/lang/String")], some (.object "java/lang/Object")⟩ := by decide +kernel
def Q_rm4 (Z : State) (o : Addr) (x : Addr) (k : Nat) (cap : Nat) (d : Nat → Int32) (bs : Addr) (n : Nat) (f : Nat → Value) (h0 : Heap) (n0 : Nat) (v : Option Value) (h : Heap) (L : List Loc) : Prop := v = none ∧ Fr n0 L ∧ own_Kx h0 h x ∧ (own_Row Z h n0 x o k cap d x)
set_option maxRecDepth 65536 in
set_option maxHeartbeats 40000000 in
theorem rm4 (l : Launch) (Z : State) (a0 : Array Value) (hw : ∀ d ∈ tables_1, d.before a0 Z = true) (ws : List Jvm.Cond) (o : Addr) (x : Addr) (k : Nat) (cap : Nat) (d : Nat → Int32) (bs : Addr) (n : Nat) (f : Nat → Value) (h0 : Heap) (n0 : Nat) (Z0 : n0 ≤ h0.size) (row : own_Row Z h0 n0 x o k cap d bs) (pr1 : own_Ar Z h0 x .byte n f) (pr2 : Exa Z h0 x "[B") :
    own_MetW l Z h0 (⟨"com/example/quayside/quayside/Row", "setBytes", "([B)V"⟩ : MethodName) prog_62_method_5_code 2 none ws ({ frames := 1, cells := 2, slots := 24, locals := 14 } : Room) #[(.ref o), (.ref x)] (Q_rm4 Z o x k cap d bs n f h0 n0) := by
  refine own_enterW (plainFor_of_name pn_4) ?_
  intro p e s m below meth c T0 X0 hx hby hml hret hlk hown hnm hZ e0
  have N0 := Fr.nil n0
  have hS0 : s.Since s.vm 0 := (State.WarmedH.refl s).since 0
  have hk0 : 0 ≤ h0.size := Nat.zero_le _
  have hwS : ∀ a ∈ Bundle.stringAtoms, a.before a0 Z = true := fun d hd => hw d ((by decide +kernel : ∀ d ∈ Bundle.stringAtoms, d ∈ tables_1) d hd)
  have kx0 : own_Kx h0 h0 x := own_Kx.refl
  rw [show entryFrame m #[(.ref o), (.ref x)] 2 = (mkF m 0 #[.val (.ref o), .val (.ref x)] []) from by first | (simp [entryFrame, mkF, argsToLocals, Value.category]; done) | rfl]
  obtain ⟨rs, re, gs, ge, tx, r, hE, hF1, hF2, hF3, hF4, hF5, hF6, hA1, hA2, hg1, hg2, hg3, hn1, hn2, hn3, hn4, hn5, hn6, hkc, hcap, hge, hN⟩ := row
  rcases hN with ⟨hm1, hm2⟩ | ⟨rn, mn, c', g, hm1, hm2, hA3, hg4, hn7, hn8, hn9, hn10, hmn, hmc, hck⟩
  · skip
    refine own_Go.of (S' := (T0.setTop (mkF m 2 #[.val (.ref o), .val (.ref x)] [(.ref x), (.ref o)]))) (fun t kt => ?_) ?_
    · show Steps p.tables e below (T0.setTop (mkF m 0 #[.val (.ref o), .val (.ref x)] [])) _
      refine XS.aloadN X0.here hx rfl (own_hb hby d4_0) rfl rfl ?_
      refine XS.aloadN X0.here hx rfl (own_hb hby d4_1) rfl rfl ?_
      exact kt
    obtain ⟨sa1459, T1459, h1459, k1459, X1459, e1459, E1459, hS1459, hk1459, hZ, hown, st1459⟩ := ldcS (vm0 := s.vm) X0 hx hZ hown (hw _ (List.mem_of_getElem? (i := 26) rfl)) hwS e0 hS0 hk0 (g := (mkF m 2 #[.val (.ref o), .val (.ref x)] [(.ref x), (.ref o)])) rfl (own_hb hby d4_2) (n := 20) (by decide) (by decide) (by decide) (by decide)
    refine own_Go.of (S' := (T1459.setTop (mkF m 4 #[.val (.ref o), .val (.ref x)] [(.ref sa1459), (.ref x), (.ref o)]))) st1459 ?_
    have hk1460 := Nat.le_trans hk0 E1459.1
    have kx1461 := kx0.ext E1459
    have f1462 := pr1.ext E1459
    have f1463 := pr2.ext E1459
    have f1464 := hE.ext E1459
    have f1465 := hF1.ext E1459
    have f1466 := hF2.ext E1459
    have f1467 := hF3.ext E1459
    have f1468 := hF4.ext E1459
    have f1469 := hF5.ext E1459
    have f1470 := hF6.ext E1459
    have f1471 := hA1.ext E1459
    have f1472 := hA2.ext E1459
    have f1473 := hm1.ext E1459
    have f1474 := hm2.ext E1459
    have z1475 := Nat.le_trans Z0 E1459.1
    obtain ⟨_, _, ⟨T1476, L1476, k1476, n1476⟩, -, X1476, ⟨Lc1476, hQ1476, l1476, y1476, z1476⟩, st1476⟩ := Jvm.LawKit.callS X1459 hx (y := (⟨"java/util/Objects", "requireNonNull", "(Ljava/lang/Object;Ljava/lang/String;)Ljava/lang/Object;"⟩ : MethodName)) hown (mvT hZ (hw _ (List.mem_of_getElem? (i := 33) rfl))) (mvT hZ (hw _ (List.mem_of_getElem? (i := 34) rfl))) (mvT hZ (hw _ (List.mem_of_getElem? (i := 35) rfl))) (mvT hZ (hw _ (List.mem_of_getElem? (i := 36) rfl))) (by decide) (backOf (W := 1) (rm5 l Z a0 hw [] x sa1459 h1459 n0 z1475 ) hZ (hw _ (List.mem_of_getElem? (i := 36) rfl)) (hw _ (List.mem_of_getElem? (i := 35) rfl)) (by decide) (by decide)) (g := (mkF m 4 #[.val (.ref o), .val (.ref x)] [(.ref sa1459), (.ref x), (.ref o)])) rfl (by rw [hml]; rfl) (argsL := [(.ref x), (.ref sa1459)]) (rest := [(.ref o)]) (lenOf pd_4 rfl) rfl (by show 2 * 0 + _ ≤ _; exact Nat.le_of_eq rfl) (own_hb hby d4_4) (fun _ _ => ⟨rfl, e1459, (by decide : 2 + 0 ≤ _), (by decide : 24 + 0 ≤ _)⟩)
    dsimp only [Pt.U, Pt.locs, Pt.cells, Pt.slots] at X1476 l1476 y1476 z1476 st1476 hQ1476
    subst l1476 y1476 z1476
    obtain ⟨rfl, N1476q, hh1476⟩ := hQ1476
    have N1476 := Fr.app N0 N1476q
    refine own_Go.of (S' := (T1476.setTop (mkF m 7 #[.val (.ref o), .val (.ref x)] [(.ref x), (.ref o)]))) (fun t kt => st1476 t kt) ?_
    obtain ⟨T1477, X1477, e1477, st1477⟩ := castY X1476 hx hZ hown (hw _ (List.mem_of_getElem? (i := 37) rfl)) hh1476 (Ins.self f1463) (g := (mkF m 7 #[.val (.ref o), .val (.ref x)] [(.ref x), (.ref o)])) rfl rfl (own_hb hby d4_7)
    refine own_Go.of (S' := (T1477.setTop (mkF m 10 #[.val (.ref o), .val (.ref x)] [(.ref x), (.ref o)]))) st1477 ?_
    obtain ⟨T1478, h1478, X1478, e1478, W1478, st1478⟩ := putF X1477 hx hZ hown (host := "") (Or.inl (hw _ (List.mem_of_getElem? (i := 14) rfl))) Via.refl e1477 f1470 f1464 (Or.inl (hw _ (List.mem_of_getElem? (i := 15) rfl))) (hw _ (List.mem_of_getElem? (i := 6) rfl)) (ty := (.array .byte)) (by decide) rfl rfl (g := (mkF m 10 #[.val (.ref o), .val (.ref x)] [(.ref x), (.ref o)])) rfl rfl (own_hb hby d4_10)
    refine own_Go.of (S' := (T1478.setTop (mkF m 13 #[.val (.ref o), .val (.ref x)] []))) st1478 ?_
    have hk1479 := Nat.le_trans hk1459 (Keep.of_wr W1478).1
    have kx1480 := kx1461.wr W1478 hn4
    have f1481 := f1462.other W1478 hn4
    have f1482 := f1463.wr W1478
    have f1483 := f1464.wr W1478
    have f1484 := f1465.other W1478 (Or.inr (slot_ne (Or.inl (hw _ (List.mem_of_getElem? (i := 18) rfl))) (Or.inl (hw _ (List.mem_of_getElem? (i := 15) rfl))) (by decide) (t := (.array .int)) (t' := (.array .byte)) (by decide) (by decide)))
    have f1485 := f1466.other W1478 (Or.inr (slot_ne (Or.inl (hw _ (List.mem_of_getElem? (i := 20) rfl))) (Or.inl (hw _ (List.mem_of_getElem? (i := 15) rfl))) (by decide) (t := (.array .int)) (t' := (.array .byte)) (by decide) (by decide)))
    have f1486 := f1467.other W1478 (Or.inr (slot_ne (Or.inl (hw _ (List.mem_of_getElem? (i := 57) rfl))) (Or.inl (hw _ (List.mem_of_getElem? (i := 15) rfl))) (by decide) (t := .int) (t' := (.array .byte)) (by decide) (by decide)))
    have f1487 := f1468.other W1478 (Or.inr (slot_ne (Or.inl (hw _ (List.mem_of_getElem? (i := 50) rfl))) (Or.inl (hw _ (List.mem_of_getElem? (i := 15) rfl))) (by decide) (t := .int) (t' := (.array .byte)) (by decide) (by decide)))
    have f1488 := f1469.other W1478 (Or.inr (slot_ne (Or.inl (hw _ (List.mem_of_getElem? (i := 40) rfl))) (Or.inl (hw _ (List.mem_of_getElem? (i := 15) rfl))) (by decide) (t := .boolean) (t' := (.array .byte)) (by decide) (by decide)))
    have f1489 := f1471.other W1478 (Ne.symm hn1)
    have f1490 := f1472.other W1478 (Ne.symm hn2)
    have f1491 := f1473.other W1478 (Or.inr (slot_ne (Or.inl (hw _ (List.mem_of_getElem? (i := 69) rfl))) (Or.inl (hw _ (List.mem_of_getElem? (i := 15) rfl))) (by decide) (t := (.array .boolean)) (t' := (.array .byte)) (by decide) (by decide)))
    have f1492 := f1474.other W1478 (Or.inr (slot_ne (Or.inl (hw _ (List.mem_of_getElem? (i := 83) rfl))) (Or.inl (hw _ (List.mem_of_getElem? (i := 15) rfl))) (by decide) (t := .int) (t' := (.array .byte)) (by decide) (by decide)))
    have z1493 := Nat.le_trans z1475 (Keep.of_wr W1478).1
    have f1494 : Fld Z h1478 o "com/example/quayside/quayside/Row" "bytes" "[B" (.ref x) := f1470.same W1478
    have N1478 := Fr.snoc X1478 N1476 hg1
    refine own_Go.of (S' := (T1478.setTop (mkF m 15 #[.val (.ref o), .val (.ref x)] [(.int (0 : Int32)), (.ref o)]))) (fun t kt => ?_) ?_
    · show Steps p.tables e below (T1478.setTop (mkF m 13 #[.val (.ref o), .val (.ref x)] [])) _
      refine XS.aloadN X1478.here hx rfl (own_hb hby d4_13) rfl rfl ?_
      refine XS.iconst X1478.here hx rfl (own_hb hby d4_14) ?_
      exact kt
    obtain ⟨T1495, h1495, X1495, e1495, W1495, st1495⟩ := putFN X1478 hx hZ hown (hw _ (List.mem_of_getElem? (i := 39) rfl)) Via.refl e1478 f1488 f1483 (Or.inl (hw _ (List.mem_of_getElem? (i := 40) rfl))) (hw _ (List.mem_of_getElem? (i := 6) rfl)) (ty := .boolean) (v' := (.int (nar .boolean (0 : Int32)))) (by decide) rfl (fits_nar_bool _) (g := (mkF m 15 #[.val (.ref o), .val (.ref x)] [(.int (0 : Int32)), (.ref o)])) rfl rfl (own_hb hby d4_15)
    refine own_Go.of (S' := (T1495.setTop (mkF m 18 #[.val (.ref o), .val (.ref x)] []))) st1495 ?_
    have hk1496 := Nat.le_trans hk1479 (Keep.of_wr W1495).1
    have kx1497 := kx1480.wr W1495 hn4
    have f1498 := f1481.other W1495 hn4
    have f1499 := f1482.wr W1495
    have f1500 := f1483.wr W1495
    have f1501 := f1484.other W1495 (Or.inr (slot_ne (Or.inl (hw _ (List.mem_of_getElem? (i := 18) rfl))) (Or.inl (hw _ (List.mem_of_getElem? (i := 40) rfl))) (by decide) (t := (.array .int)) (t' := .boolean) (by decide) (by decide)))
    have f1502 := f1485.other W1495 (Or.inr (slot_ne (Or.inl (hw _ (List.mem_of_getElem? (i := 20) rfl))) (Or.inl (hw _ (List.mem_of_getElem? (i := 40) rfl))) (by decide) (t := (.array .int)) (t' := .boolean) (by decide) (by decide)))
    have f1503 := f1486.other W1495 (Or.inr (slot_ne (Or.inl (hw _ (List.mem_of_getElem? (i := 57) rfl))) (Or.inl (hw _ (List.mem_of_getElem? (i := 40) rfl))) (by decide) (t := .int) (t' := .boolean) (by decide) (by decide)))
    have f1504 := f1487.other W1495 (Or.inr (slot_ne (Or.inl (hw _ (List.mem_of_getElem? (i := 50) rfl))) (Or.inl (hw _ (List.mem_of_getElem? (i := 40) rfl))) (by decide) (t := .int) (t' := .boolean) (by decide) (by decide)))
    have f1505 := f1494.other W1495 (Or.inr (slot_ne (Or.inl (hw _ (List.mem_of_getElem? (i := 15) rfl))) (Or.inl (hw _ (List.mem_of_getElem? (i := 40) rfl))) (by decide) (t := (.array .byte)) (t' := .boolean) (by decide) (by decide)))
    have f1506 := f1489.other W1495 (Ne.symm hn1)
    have f1507 := f1490.other W1495 (Ne.symm hn2)
    have f1508 := f1491.other W1495 (Or.inr (slot_ne (Or.inl (hw _ (List.mem_of_getElem? (i := 69) rfl))) (Or.inl (hw _ (List.mem_of_getElem? (i := 40) rfl))) (by decide) (t := (.array .boolean)) (t' := .boolean) (by decide) (by decide)))
    have f1509 := f1492.other W1495 (Or.inr (slot_ne (Or.inl (hw _ (List.mem_of_getElem? (i := 83) rfl))) (Or.inl (hw _ (List.mem_of_getElem? (i := 40) rfl))) (by decide) (t := .int) (t' := .boolean) (by decide) (by decide)))
    have z1510 := Nat.le_trans z1493 (Keep.of_wr W1495).1
    have f1511 : Fld Z h1495 o "com/example/quayside/quayside/Row" "text" "Z" (.int (nar .boolean (0 : Int32))) := f1488.same W1495
    have N1495 := Fr.snoc X1495 N1478 hg1
    have f1512 : Fld Z h1495 o "com/example/quayside/quayside/Row" "text" "Z" (.int (0 : Int32)) := f1511
    exact own_retVW (vm0 := T1459.vm) X1495 hS1459 hk1496 hx hlk hret (own_hb hby d4_18) e1495 ⟨rfl, N1495, kx1497, ⟨rs, re, gs, ge, (0 : Int32), r, f1500, f1501, f1502, f1503, f1504, f1512, f1505, f1506, f1507, hg1, hg2, hg3, hn1, hn2, hn3, hn4, hn5, hn6, hkc, hcap, hge, Or.inl ⟨f1508, f1509⟩⟩⟩ (by decide) (by decide)
  · skip
    refine own_Go.of (S' := (T0.setTop (mkF m 2 #[.val (.ref o), .val (.ref x)] [(.ref x), (.ref o)]))) (fun t kt => ?_) ?_
    · show Steps p.tables e below (T0.setTop (mkF m 0 #[.val (.ref o), .val (.ref x)] [])) _
      refine XS.aloadN X0.here hx rfl (own_hb hby d4_0) rfl rfl ?_
      refine XS.aloadN X0.here hx rfl (own_hb hby d4_1) rfl rfl ?_
      exact kt
    obtain ⟨sa1513, T1513, h1513, k1513, X1513, e1513, E1513, hS1513, hk1513, hZ, hown, st1513⟩ := ldcS (vm0 := s.vm) X0 hx hZ hown (hw _ (List.mem_of_getElem? (i := 26) rfl)) hwS e0 hS0 hk0 (g := (mkF m 2 #[.val (.ref o), .val (.ref x)] [(.ref x), (.ref o)])) rfl (own_hb hby d4_2) (n := 20) (by decide) (by decide) (by decide) (by decide)
    refine own_Go.of (S' := (T1513.setTop (mkF m 4 #[.val (.ref o), .val (.ref x)] [(.ref sa1513), (.ref x), (.ref o)]))) st1513 ?_
    have hk1514 := Nat.le_trans hk0 E1513.1
    have kx1515 := kx0.ext E1513
    have f1516 := pr1.ext E1513
    have f1517 := pr2.ext E1513
    have f1518 := hE.ext E1513
    have f1519 := hF1.ext E1513
    have f1520 := hF2.ext E1513
    have f1521 := hF3.ext E1513
    have f1522 := hF4.ext E1513
    have f1523 := hF5.ext E1513
    have f1524 := hF6.ext E1513
    have f1525 := hA1.ext E1513
    have f1526 := hA2.ext E1513
    have f1527 := hm1.ext E1513
    have f1528 := hm2.ext E1513
    have f1529 := hA3.ext E1513
    have z1530 := Nat.le_trans Z0 E1513.1
    obtain ⟨_, _, ⟨T1531, L1531, k1531, n1531⟩, -, X1531, ⟨Lc1531, hQ1531, l1531, y1531, z1531⟩, st1531⟩ := Jvm.LawKit.callS X1513 hx (y := (⟨"java/util/Objects", "requireNonNull", "(Ljava/lang/Object;Ljava/lang/String;)Ljava/lang/Object;"⟩ : MethodName)) hown (mvT hZ (hw _ (List.mem_of_getElem? (i := 33) rfl))) (mvT hZ (hw _ (List.mem_of_getElem? (i := 34) rfl))) (mvT hZ (hw _ (List.mem_of_getElem? (i := 35) rfl))) (mvT hZ (hw _ (List.mem_of_getElem? (i := 36) rfl))) (by decide) (backOf (W := 1) (rm5 l Z a0 hw [] x sa1513 h1513 n0 z1530 ) hZ (hw _ (List.mem_of_getElem? (i := 36) rfl)) (hw _ (List.mem_of_getElem? (i := 35) rfl)) (by decide) (by decide)) (g := (mkF m 4 #[.val (.ref o), .val (.ref x)] [(.ref sa1513), (.ref x), (.ref o)])) rfl (by rw [hml]; rfl) (argsL := [(.ref x), (.ref sa1513)]) (rest := [(.ref o)]) (lenOf pd_4 rfl) rfl (by show 2 * 0 + _ ≤ _; exact Nat.le_of_eq rfl) (own_hb hby d4_4) (fun _ _ => ⟨rfl, e1513, (by decide : 2 + 0 ≤ _), (by decide : 24 + 0 ≤ _)⟩)
    dsimp only [Pt.U, Pt.locs, Pt.cells, Pt.slots] at X1531 l1531 y1531 z1531 st1531 hQ1531
    subst l1531 y1531 z1531
    obtain ⟨rfl, N1531q, hh1531⟩ := hQ1531
    have N1531 := Fr.app N0 N1531q
    refine own_Go.of (S' := (T1531.setTop (mkF m 7 #[.val (.ref o), .val (.ref x)] [(.ref x), (.ref o)]))) (fun t kt => st1531 t kt) ?_
    obtain ⟨T1532, X1532, e1532, st1532⟩ := castY X1531 hx hZ hown (hw _ (List.mem_of_getElem? (i := 37) rfl)) hh1531 (Ins.self f1517) (g := (mkF m 7 #[.val (.ref o), .val (.ref x)] [(.ref x), (.ref o)])) rfl rfl (own_hb hby d4_7)
    refine own_Go.of (S' := (T1532.setTop (mkF m 10 #[.val (.ref o), .val (.ref x)] [(.ref x), (.ref o)]))) st1532 ?_
    obtain ⟨T1533, h1533, X1533, e1533, W1533, st1533⟩ := putF X1532 hx hZ hown (host := "") (Or.inl (hw _ (List.mem_of_getElem? (i := 14) rfl))) Via.refl e1532 f1524 f1518 (Or.inl (hw _ (List.mem_of_getElem? (i := 15) rfl))) (hw _ (List.mem_of_getElem? (i := 6) rfl)) (ty := (.array .byte)) (by decide) rfl rfl (g := (mkF m 10 #[.val (.ref o), .val (.ref x)] [(.ref x), (.ref o)])) rfl rfl (own_hb hby d4_10)
    refine own_Go.of (S' := (T1533.setTop (mkF m 13 #[.val (.ref o), .val (.ref x)] []))) st1533 ?_
    have hk1534 := Nat.le_trans hk1513 (Keep.of_wr W1533).1
    have kx1535 := kx1515.wr W1533 hn4
    have f1536 := f1516.other W1533 hn4
    have f1537 := f1517.wr W1533
    have f1538 := f1518.wr W1533
    have f1539 := f1519.other W1533 (Or.inr (slot_ne (Or.inl (hw _ (List.mem_of_getElem? (i := 18) rfl))) (Or.inl (hw _ (List.mem_of_getElem? (i := 15) rfl))) (by decide) (t := (.array .int)) (t' := (.array .byte)) (by decide) (by decide)))
    have f1540 := f1520.other W1533 (Or.inr (slot_ne (Or.inl (hw _ (List.mem_of_getElem? (i := 20) rfl))) (Or.inl (hw _ (List.mem_of_getElem? (i := 15) rfl))) (by decide) (t := (.array .int)) (t' := (.array .byte)) (by decide) (by decide)))
    have f1541 := f1521.other W1533 (Or.inr (slot_ne (Or.inl (hw _ (List.mem_of_getElem? (i := 57) rfl))) (Or.inl (hw _ (List.mem_of_getElem? (i := 15) rfl))) (by decide) (t := .int) (t' := (.array .byte)) (by decide) (by decide)))
    have f1542 := f1522.other W1533 (Or.inr (slot_ne (Or.inl (hw _ (List.mem_of_getElem? (i := 50) rfl))) (Or.inl (hw _ (List.mem_of_getElem? (i := 15) rfl))) (by decide) (t := .int) (t' := (.array .byte)) (by decide) (by decide)))
    have f1543 := f1523.other W1533 (Or.inr (slot_ne (Or.inl (hw _ (List.mem_of_getElem? (i := 40) rfl))) (Or.inl (hw _ (List.mem_of_getElem? (i := 15) rfl))) (by decide) (t := .boolean) (t' := (.array .byte)) (by decide) (by decide)))
    have f1544 := f1525.other W1533 (Ne.symm hn1)
    have f1545 := f1526.other W1533 (Ne.symm hn2)
    have f1546 := f1527.other W1533 (Or.inr (slot_ne (Or.inl (hw _ (List.mem_of_getElem? (i := 69) rfl))) (Or.inl (hw _ (List.mem_of_getElem? (i := 15) rfl))) (by decide) (t := (.array .boolean)) (t' := (.array .byte)) (by decide) (by decide)))
    have f1547 := f1528.other W1533 (Or.inr (slot_ne (Or.inl (hw _ (List.mem_of_getElem? (i := 83) rfl))) (Or.inl (hw _ (List.mem_of_getElem? (i := 15) rfl))) (by decide) (t := .int) (t' := (.array .byte)) (by decide) (by decide)))
    have f1548 := f1529.other W1533 (Ne.symm hn7)
    have z1549 := Nat.le_trans z1530 (Keep.of_wr W1533).1
    have f1550 : Fld Z h1533 o "com/example/quayside/quayside/Row" "bytes" "[B" (.ref x) := f1524.same W1533
    have N1533 := Fr.snoc X1533 N1531 hg1
    refine own_Go.of (S' := (T1533.setTop (mkF m 15 #[.val (.ref o), .val (.ref x)] [(.int (0 : Int32)), (.ref o)]))) (fun t kt => ?_) ?_
    · show Steps p.tables e below (T1533.setTop (mkF m 13 #[.val (.ref o), .val (.ref x)] [])) _
      refine XS.aloadN X1533.here hx rfl (own_hb hby d4_13) rfl rfl ?_
      refine XS.iconst X1533.here hx rfl (own_hb hby d4_14) ?_
      exact kt
    obtain ⟨T1551, h1551, X1551, e1551, W1551, st1551⟩ := putFN X1533 hx hZ hown (hw _ (List.mem_of_getElem? (i := 39) rfl)) Via.refl e1533 f1543 f1538 (Or.inl (hw _ (List.mem_of_getElem? (i := 40) rfl))) (hw _ (List.mem_of_getElem? (i := 6) rfl)) (ty := .boolean) (v' := (.int (nar .boolean (0 : Int32)))) (by decide) rfl (fits_nar_bool _) (g := (mkF m 15 #[.val (.ref o), .val (.ref x)] [(.int (0 : Int32)), (.ref o)])) rfl rfl (own_hb hby d4_15)
    refine own_Go.of (S' := (T1551.setTop (mkF m 18 #[.val (.ref o), .val (.ref x)] []))) st1551 ?_
    have hk1552 := Nat.le_trans hk1534 (Keep.of_wr W1551).1
    have kx1553 := kx1535.wr W1551 hn4
    have f1554 := f1536.other W1551 hn4
    have f1555 := f1537.wr W1551
    have f1556 := f1538.wr W1551
    have f1557 := f1539.other W1551 (Or.inr (slot_ne (Or.inl (hw _ (List.mem_of_getElem? (i := 18) rfl))) (Or.inl (hw _ (List.mem_of_getElem? (i := 40) rfl))) (by decide) (t := (.array .int)) (t' := .boolean) (by decide) (by decide)))
    have f1558 := f1540.other W1551 (Or.inr (slot_ne (Or.inl (hw _ (List.mem_of_getElem? (i := 20) rfl))) (Or.inl (hw _ (List.mem_of_getElem? (i := 40) rfl))) (by decide) (t := (.array .int)) (t' := .boolean) (by decide) (by decide)))
    have f1559 := f1541.other W1551 (Or.inr (slot_ne (Or.inl (hw _ (List.mem_of_getElem? (i := 57) rfl))) (Or.inl (hw _ (List.mem_of_getElem? (i := 40) rfl))) (by decide) (t := .int) (t' := .boolean) (by decide) (by decide)))
    have f1560 := f1542.other W1551 (Or.inr (slot_ne (Or.inl (hw _ (List.mem_of_getElem? (i := 50) rfl))) (Or.inl (hw _ (List.mem_of_getElem? (i := 40) rfl))) (by decide) (t := .int) (t' := .boolean) (by decide) (by decide)))
    have f1561 := f1550.other W1551 (Or.inr (slot_ne (Or.inl (hw _ (List.mem_of_getElem? (i := 15) rfl))) (Or.inl (hw _ (List.mem_of_getElem? (i := 40) rfl))) (by decide) (t := (.array .byte)) (t' := .boolean) (by decide) (by decide)))
    have f1562 := f1544.other W1551 (Ne.symm hn1)
    have f1563 := f1545.other W1551 (Ne.symm hn2)
    have f1564 := f1546.other W1551 (Or.inr (slot_ne (Or.inl (hw _ (List.mem_of_getElem? (i := 69) rfl))) (Or.inl (hw _ (List.mem_of_getElem? (i := 40) rfl))) (by decide) (t := (.array .boolean)) (t' := .boolean) (by decide) (by decide)))
    have f1565 := f1547.other W1551 (Or.inr (slot_ne (Or.inl (hw _ (List.mem_of_getElem? (i := 83) rfl))) (Or.inl (hw _ (List.mem_of_getElem? (i := 40) rfl))) (by decide) (t := .int) (t' := .boolean) (by decide) (by decide)))
    have f1566 := f1548.other W1551 (Ne.symm hn7)
    have z1567 := Nat.le_trans z1549 (Keep.of_wr W1551).1
    have f1568 : Fld Z h1551 o "com/example/quayside/quayside/Row" "text" "Z" (.int (nar .boolean (0 : Int32))) := f1543.same W1551
    have N1551 := Fr.snoc X1551 N1533 hg1
    have f1569 : Fld Z h1551 o "com/example/quayside/quayside/Row" "text" "Z" (.int (0 : Int32)) := f1568
    exact own_retVW (vm0 := T1513.vm) X1551 hS1513 hk1552 hx hlk hret (own_hb hby d4_18) e1551 ⟨rfl, N1551, kx1553, ⟨rs, re, gs, ge, (0 : Int32), r, f1556, f1557, f1558, f1559, f1560, f1569, f1561, f1562, f1563, hg1, hg2, hg3, hn1, hn2, hn3, hn4, hn5, hn6, hkc, hcap, hge, Or.inr ⟨rn, mn, c', g, f1564, f1565, f1566, hg4, hn7, hn8, hn9, hn10, hmn, hmc, hck⟩⟩⟩ (by decide) (by decide)
theorem d1_0 : decode method_2_code 0 = .ok (.iload_n 0, 1) := by decide +kernel
theorem d1_1 : decode method_2_code 1 = .ok (.ifCond .ge 10, 3) := by decide +kernel
theorem d1_4 : decode method_2_code 4 = .ok (.iload_n 0, 1) := by decide +kernel
theorem d1_5 : decode method_2_code 5 = .ok (.ldc 7, 2) := by decide +kernel
theorem d1_7 : decode method_2_code 7 = .ok (.iand, 1) := by decide +kernel
theorem d1_8 : decode method_2_code 8 = .ok (.goto 7, 3) := by decide +kernel
theorem d1_11 : decode method_2_code 11 = .ok (.iload_n 0, 1) := by decide +kernel
theorem d1_12 : decode method_2_code 12 = .ok (.bipush 15, 2) := by decide +kernel
theorem d1_14 : decode method_2_code 14 = .ok (.iand, 1) := by decide +kernel
theorem d1_15 : decode method_2_code 15 = .ok (.ireturn, 1) := by decide +kernel
theorem pn_1 : plainName "com/example/quayside/quayside/RowBeyondBytesPinLaw" = true := by first | (simp [plainName, overriddenIn]; done) | decide +kernel
def Q_rm1 (Z : State) (q : Int32) (h0 : Heap) (n0 : Nat) (v : Option Value) (h : Heap) (L : List Loc) : Prop := ∃ dn : Nat, v = some (.int (Int32.ofNat dn)) ∧ Fr n0 L ∧ h = h0 ∧ (dn ≤ 2147483647)
set_option maxRecDepth 65536 in
set_option maxHeartbeats 40000000 in
theorem rm1 (l : Launch) (Z : State) (a0 : Array Value) (hw : ∀ d ∈ tables_1, d.before a0 Z = true) (ws : List Jvm.Cond) (q : Int32) (h0 : Heap) (n0 : Nat) (Z0 : n0 ≤ h0.size)  :
    own_Met l Z h0 (⟨"com/example/quayside/quayside/RowBeyondBytesPinLaw", "end", "(I)I"⟩ : MethodName) method_2_code 1 (some .int) ws ({ frames := 0, cells := 0, slots := 0, locals := 0 } : Room) #[(.int q)] (Q_rm1 Z q h0 n0) := by
  refine own_enter (plainFor_of_name pn_1) ?_
  intro p e s m below meth c T0 X0 hx hby hml hret hlk hown hnm hZ e0
  have N0 := Fr.nil n0
  rw [show entryFrame m #[(.int q)] 1 = (mkF m 0 #[.val (.int q)] []) from by first | (simp [entryFrame, mkF, argsToLocals, Value.category]; done) | rfl]
  refine own_Go.of (S' := (T0.setTop (mkF m 1 #[.val (.int q)] [(.int q)]))) (fun t kt => ?_) ?_
  · show Steps p.tables e below (T0.setTop (mkF m 0 #[.val (.int q)] [])) _
    refine XS.iloadN X0.here hx rfl (own_hb hby d1_0) rfl ?_
    exact kt
  by_cases hc1_1570 : q < (0 : Int32)
  · skip
    refine own_Go.of (S' := (T0.setTop (mkF m 15 #[.val (.int q)] [(.int (q &&& (2147483647 : Int32)))]))) (fun t kt => ?_) ?_
    · show Steps p.tables e below (T0.setTop (mkF m 1 #[.val (.int q)] [(.int q)])) _
      refine XS.ifNo X0.here hx rfl (own_hb hby d1_1) rfl ((if0 _ _).trans (tlt hc1_1570).2.1) ?_
      refine XS.iloadN X0.here hx rfl (own_hb hby d1_4) rfl ?_
      show Steps p.tables e below (T0.setTop (mkF m 5 #[.val (.int q)] [(.int q)])) _
      refine X0.ldcInt hx hown (mvT hZ (hw _ (List.mem_of_getElem? (i := 87) rfl))) (g := (mkF m 5 #[.val (.int q)] [(.int q)])) rfl (own_hb hby d1_5) _ ?_
      refine XS.iand X0.here hx rfl (own_hb hby d1_7) rfl ?_
      refine XS.goto X0.here hx rfl (pc0 := 8) (pc' := 15) rfl (own_hb hby d1_8) (by decide) (by decide) ?_
      exact kt
    obtain ⟨nn, hnn, enn⟩ : ∃ n : Nat, n ≤ 2147483647 ∧ (q &&& (2147483647 : Int32)) = Int32.ofNat n := own_mask _ 2147483647
    exact own_retI X0 hx hlk hret (own_hb hby d1_15) e0 ⟨nn, by rw [enn], N0, rfl, by omega⟩ (by decide) (by decide)
  · skip
    refine own_Go.of (S' := (T0.setTop (mkF m 15 #[.val (.int q)] [(.int (q &&& (15 : Int32)))]))) (fun t kt => ?_) ?_
    · show Steps p.tables e below (T0.setTop (mkF m 1 #[.val (.int q)] [(.int q)])) _
      refine XS.ifYes X0.here hx rfl (pc0 := 1) (pc' := 11) rfl (own_hb hby d1_1) rfl ((if0 _ _).trans (flt hc1_1570).2.1) (by decide) (by decide) ?_
      refine XS.iloadN X0.here hx rfl (own_hb hby d1_11) rfl ?_
      refine XS.bipush X0.here hx rfl (own_hb hby d1_12) ?_
      refine XS.iand X0.here hx rfl (own_hb hby d1_14) rfl ?_
      exact kt
    obtain ⟨nn, hnn, enn⟩ : ∃ n : Nat, n ≤ 15 ∧ (q &&& (15 : Int32)) = Int32.ofNat n := own_mask _ 15
    exact own_retI X0 hx hlk hret (own_hb hby d1_15) e0 ⟨nn, by rw [enn], N0, rfl, by omega⟩ (by decide) (by decide)
theorem d6_0 : decode method_3_code 0 = .ok (.iload_n 2, 1) := by decide +kernel
theorem d6_1 : decode method_3_code 1 = .ok (.iload_n 1, 1) := by decide +kernel
theorem d6_2 : decode method_3_code 2 = .ok (.if_icmp .ge 24, 3) := by decide +kernel
theorem d6_5 : decode method_3_code 5 = .ok (.iload_n 3, 1) := by decide +kernel
theorem d6_6 : decode method_3_code 6 = .ok (.ifCond .eq 10, 3) := by decide +kernel
theorem d6_9 : decode method_3_code 9 = .ok (.aload_n 0, 1) := by decide +kernel
theorem d6_10 : decode method_3_code 10 = .ok (.invokevirtual 8, 3) := by decide +kernel
theorem d6_13 : decode method_3_code 13 = .ok (.goto 13, 3) := by decide +kernel
theorem d6_16 : decode method_3_code 16 = .ok (.aload_n 0, 1) := by decide +kernel
theorem d6_17 : decode method_3_code 17 = .ok (.iload 4, 2) := by decide +kernel
theorem d6_19 : decode method_3_code 19 = .ok (.iconst 1, 1) := by decide +kernel
theorem d6_20 : decode method_3_code 20 = .ok (.iushr, 1) := by decide +kernel
theorem d6_21 : decode method_3_code 21 = .ok (.iload 4, 2) := by decide +kernel
theorem d6_23 : decode method_3_code 23 = .ok (.invokevirtual 13, 3) := by decide +kernel
theorem d6_26 : decode method_3_code 26 = .ok (.return_, 1) := by decide +kernel
theorem pn_6 : plainName "com/example/quayside/quayside/RowBeyondBytesPinLaw" = true := by first | (simp [plainName, overriddenIn]; done) | decide +kernel
theorem pd_5 : parseMethodDescriptor "()V" = some ⟨[], none⟩ := by decide +kernel
def Q_rm6 (Z : State) (o : Addr) (n : Nat) (i : Nat) (b : Int32) (en : Nat) (x : Addr) (k : Nat) (cap : Nat) (d : Nat → Int32) (bs : Addr) (h0 : Heap) (n0 : Nat) (v : Option Value) (h : Heap) (L : List Loc) : Prop := ∃ cap' : Nat, v = none ∧ Fr n0 L ∧ own_Kx h0 h x ∧ (own_Row Z h n0 x o (min (i + 1) n) cap' d bs)
set_option maxRecDepth 65536 in
set_option maxHeartbeats 40000000 in
theorem rm6 (l : Launch) (Z : State) (a0 : Array Value) (hw : ∀ d ∈ tables_1, d.before a0 Z = true) (ws : List Jvm.Cond) (o : Addr) (n : Nat) (i : Nat) (b : Int32) (en : Nat) (x : Addr) (k : Nat) (cap : Nat) (d : Nat → Int32) (bs : Addr) (h0 : Heap) (n0 : Nat) (Z0 : n0 ≤ h0.size) (row : own_Row Z h0 n0 x o k cap d bs) (pr1 : own_Lt h0 x) (hb01 : b = 0 ∨ b = 1) (hk : k = min i n) (hn : n ≤ 5) (hi4 : i ≤ 4) (hen : en ≤ 2147483647) (hD : i < n → d i = if b = 0 then Int32.ofNat en else 0) :
    own_Met l Z h0 (⟨"com/example/quayside/quayside/RowBeyondBytesPinLaw", "put", "(Lcom/example/quayside/quayside/Row;IIZI)V"⟩ : MethodName) method_3_code 5 none ws ({ frames := 4, cells := 4, slots := 24, locals := 59 } : Room) #[(.ref o), (.int (Int32.ofNat n)), (.int (Int32.ofNat i)), (.int b), (.int (Int32.ofNat en))] (Q_rm6 Z o n i b en x k cap d bs h0 n0) := by
  refine own_enter (plainFor_of_name pn_6) ?_
  intro p e s m below meth c T0 X0 hx hby hml hret hlk hown hnm hZ e0
  have N0 := Fr.nil n0
  have kx0 : own_Kx h0 h0 x := own_Kx.refl
  rw [show entryFrame m #[(.ref o), (.int (Int32.ofNat n)), (.int (Int32.ofNat i)), (.int b), (.int (Int32.ofNat en))] 5 = (mkF m 0 #[.val (.ref o), .val (.int (Int32.ofNat n)), .val (.int (Int32.ofNat i)), .val (.int b), .val (.int (Int32.ofNat en))] []) from by first | (simp [entryFrame, mkF, argsToLocals, Value.category]; done) | rfl]
  rcases hb01 with rfl | rfl
  · skip
    refine own_Go.of (S' := (T0.setTop (mkF m 2 #[.val (.ref o), .val (.int (Int32.ofNat n)), .val (.int (Int32.ofNat i)), .val (.int (0 : Int32)), .val (.int (Int32.ofNat en))] [(.int (Int32.ofNat n)), (.int (Int32.ofNat i))]))) (fun t kt => ?_) ?_
    · show Steps p.tables e below (T0.setTop (mkF m 0 #[.val (.ref o), .val (.int (Int32.ofNat n)), .val (.int (Int32.ofNat i)), .val (.int (0 : Int32)), .val (.int (Int32.ofNat en))] [])) _
      refine XS.iloadN X0.here hx rfl (own_hb hby d6_0) rfl ?_
      refine XS.iloadN X0.here hx rfl (own_hb hby d6_1) rfl ?_
      exact kt
    by_cases hc2_1571 : i < n
    · skip
      refine own_Go.of (S' := (T0.setTop (mkF m 23 #[.val (.ref o), .val (.int (Int32.ofNat n)), .val (.int (Int32.ofNat i)), .val (.int (0 : Int32)), .val (.int (Int32.ofNat en))] [(.int (Int32.ofNat en)), (.int (Int32.ofNat (en / 2))), (.ref o)]))) (fun t kt => ?_) ?_
      · show Steps p.tables e below (T0.setTop (mkF m 2 #[.val (.ref o), .val (.int (Int32.ofNat n)), .val (.int (Int32.ofNat i)), .val (.int (0 : Int32)), .val (.int (Int32.ofNat en))] [(.int (Int32.ofNat n)), (.int (Int32.ofNat i))])) _
        refine XS.icmpNo X0.here hx rfl (own_hb hby d6_2) rfl (tlt ((own_ltN (by omega) (by omega)).mpr hc2_1571)).2.1 ?_
        refine XS.iloadN X0.here hx rfl (own_hb hby d6_5) rfl ?_
        refine XS.ifYes X0.here hx rfl (pc0 := 6) (pc' := 16) rfl (own_hb hby d6_6) rfl ((if0 _ _).trans (teq (rfl : (0 : Int32) = (0 : Int32))).1) (by decide) (by decide) ?_
        refine XS.aloadN X0.here hx rfl (own_hb hby d6_16) rfl rfl ?_
        show Steps p.tables e below (T0.setTop (mkF m 17 #[.val (.ref o), .val (.int (Int32.ofNat n)), .val (.int (Int32.ofNat i)), .val (.int (0 : Int32)), .val (.int (Int32.ofNat en))] [(.ref o)])) _
        refine XS.iload X0.here hx rfl (own_hb hby d6_17) rfl ?_
        refine XS.iconst X0.here hx rfl (own_hb hby d6_19) ?_
        refine XS.iushr X0.here hx rfl (own_hb hby d6_20) rfl ?_
        show Steps p.tables e below (T0.setTop (mkF m 21 #[.val (.ref o), .val (.int (Int32.ofNat n)), .val (.int (Int32.ofNat i)), .val (.int (0 : Int32)), .val (.int (Int32.ofNat en))] [(.int (((Int32.ofNat en).toUInt32 >>> ((1 : Int32) &&& 31).toUInt32).toInt32)), (.ref o)])) _
        rw [own_shr1 (e := en) (by omega)]
        refine XS.iload X0.here hx rfl (own_hb hby d6_21) rfl ?_
        exact kt
      obtain ⟨cq1572, kq1572, q1572a, q1572b, q1572c⟩ := isOf hZ e0 row.exa
      obtain ⟨_, _, ⟨T1572, L1572, k1572, n1572⟩, -, X1572, ⟨Lc1572, hQ1572, l1572, y1572, z1572⟩, st1572⟩ := X0.virtualBack hx (y := (⟨"com/example/quayside/quayside/Row", "add", "(II)V"⟩ : MethodName)) (z := (⟨"com/example/quayside/quayside/Row", "add", "(II)V"⟩ : MethodName)) hown (mvT hZ (hw _ (List.mem_of_getElem? (i := 51) rfl))) (mvT hZ (hw _ (List.mem_of_getElem? (i := 52) rfl))) (notFace_of_selects (args := #[]) (mvT hZ (hw _ (List.mem_of_getElem? (i := 54) rfl)))) (mvT hZ (hw _ (List.mem_of_getElem? (i := 54) rfl))) (mvT hZ (hw _ (List.mem_of_getElem? (i := 53) rfl))) (by decide) (backOf (W := 0) (rm8pg l Z a0 hw [] x o (en / 2) (Int32.ofNat en) k cap d bs h0 n0 Z0 row (by omega) (by omega) (fun q => by have h2 := (own_ltN (a := en) (b := en / 2) (by omega) (by omega)).mp q; omega) pr1) hZ (hw _ (List.mem_of_getElem? (i := 55) rfl)) (hw _ (List.mem_of_getElem? (i := 7) rfl)) (by decide) (by decide)) q1572a q1572c (g := (mkF m 23 #[.val (.ref o), .val (.int (Int32.ofNat n)), .val (.int (Int32.ofNat i)), .val (.int (0 : Int32)), .val (.int (Int32.ofNat en))] [(.int (Int32.ofNat en)), (.int (Int32.ofNat (en / 2))), (.ref o)])) rfl (by rw [hml]; rfl) (Steps.refl _) (argsL := [(.int (Int32.ofNat (en / 2))), (.int (Int32.ofNat en))]) (rest := []) (lenOf pd_2 rfl) rfl (by show 2 * 0 + _ ≤ _; exact Nat.le_of_eq rfl) (own_hb hby d6_23) (fun _ _ => ⟨rfl, e0, (by decide : 0 + 2 ≤ _), (by decide : 0 + 16 ≤ _)⟩)
      dsimp only [Pt.U, Pt.locs, Pt.cells, Pt.slots] at X1572 l1572 y1572 z1572 st1572 hQ1572
      subst l1572 y1572 z1572
      obtain ⟨cap'1572, rfl, N1572q, K1572, p1572_0⟩ := hQ1572
      have N1572 := Fr.app N0 N1572q
      refine own_Go.of (S' := (T1572.setTop (mkF m 26 #[.val (.ref o), .val (.int (Int32.ofNat n)), .val (.int (Int32.ofNat i)), .val (.int (0 : Int32)), .val (.int (Int32.ofNat en))] []))) (fun t kt => st1572.trans kt) ?_
      have kx1573 := kx0.trans K1572
      have f1574 := pr1.kx K1572
      have z1575 := Nat.le_trans Z0 K1572.1
      have hki : k = i := by omega
      have hDk : d k = Int32.ofNat en := by rw [hki, hD (by omega)]; exact if_pos rfl
      exact own_retV X1572 hx hlk hret (own_hb hby d6_26) rfl ⟨cap'1572, rfl, N1572, kx1573, by rw [show min (i + 1) n = k + 1 by omega]; exact p1572_0.cast (own_scast hDk)⟩ (by decide) (by decide)
    · skip
      refine own_Go.of (S' := (T0.setTop (mkF m 26 #[.val (.ref o), .val (.int (Int32.ofNat n)), .val (.int (Int32.ofNat i)), .val (.int (0 : Int32)), .val (.int (Int32.ofNat en))] []))) (fun t kt => ?_) ?_
      · show Steps p.tables e below (T0.setTop (mkF m 2 #[.val (.ref o), .val (.int (Int32.ofNat n)), .val (.int (Int32.ofNat i)), .val (.int (0 : Int32)), .val (.int (Int32.ofNat en))] [(.int (Int32.ofNat n)), (.int (Int32.ofNat i))])) _
        refine XS.icmpYes X0.here hx rfl (pc0 := 2) (pc' := 26) rfl (own_hb hby d6_2) rfl (flt (fun q => hc2_1571 ((own_ltN (by omega) (by omega)).mp q))).2.1 (by decide) (by decide) ?_
        exact kt
      exact own_retV X0 hx hlk hret (own_hb hby d6_26) e0 ⟨cap, rfl, N0, kx0, by rw [show min (i + 1) n = k by omega]; exact row⟩ (by decide) (by decide)
  · skip
    refine own_Go.of (S' := (T0.setTop (mkF m 2 #[.val (.ref o), .val (.int (Int32.ofNat n)), .val (.int (Int32.ofNat i)), .val (.int (1 : Int32)), .val (.int (Int32.ofNat en))] [(.int (Int32.ofNat n)), (.int (Int32.ofNat i))]))) (fun t kt => ?_) ?_
    · show Steps p.tables e below (T0.setTop (mkF m 0 #[.val (.ref o), .val (.int (Int32.ofNat n)), .val (.int (Int32.ofNat i)), .val (.int (1 : Int32)), .val (.int (Int32.ofNat en))] [])) _
      refine XS.iloadN X0.here hx rfl (own_hb hby d6_0) rfl ?_
      refine XS.iloadN X0.here hx rfl (own_hb hby d6_1) rfl ?_
      exact kt
    by_cases hc2_1576 : i < n
    · skip
      refine own_Go.of (S' := (T0.setTop (mkF m 10 #[.val (.ref o), .val (.int (Int32.ofNat n)), .val (.int (Int32.ofNat i)), .val (.int (1 : Int32)), .val (.int (Int32.ofNat en))] [(.ref o)]))) (fun t kt => ?_) ?_
      · show Steps p.tables e below (T0.setTop (mkF m 2 #[.val (.ref o), .val (.int (Int32.ofNat n)), .val (.int (Int32.ofNat i)), .val (.int (1 : Int32)), .val (.int (Int32.ofNat en))] [(.int (Int32.ofNat n)), (.int (Int32.ofNat i))])) _
        refine XS.icmpNo X0.here hx rfl (own_hb hby d6_2) rfl (tlt ((own_ltN (by omega) (by omega)).mpr hc2_1576)).2.1 ?_
        refine XS.iloadN X0.here hx rfl (own_hb hby d6_5) rfl ?_
        refine XS.ifNo X0.here hx rfl (own_hb hby d6_6) rfl ((if0 _ _).trans (feq (by decide : ¬ ((1 : Int32) = (0 : Int32)))).1) ?_
        refine XS.aloadN X0.here hx rfl (own_hb hby d6_9) rfl rfl ?_
        exact kt
      obtain ⟨cq1577, kq1577, q1577a, q1577b, q1577c⟩ := isOf hZ e0 row.exa
      obtain ⟨_, _, ⟨T1577, L1577, k1577, n1577⟩, -, X1577, ⟨Lc1577, hQ1577, l1577, y1577, z1577⟩, st1577⟩ := X0.virtualBack hx (y := (⟨"com/example/quayside/quayside/Row", "addNull", "()V"⟩ : MethodName)) (z := (⟨"com/example/quayside/quayside/Row", "addNull", "()V"⟩ : MethodName)) hown (mvT hZ (hw _ (List.mem_of_getElem? (i := 62) rfl))) (mvT hZ (hw _ (List.mem_of_getElem? (i := 63) rfl))) (notFace_of_selects (args := #[]) (mvT hZ (hw _ (List.mem_of_getElem? (i := 65) rfl)))) (mvT hZ (hw _ (List.mem_of_getElem? (i := 65) rfl))) (mvT hZ (hw _ (List.mem_of_getElem? (i := 64) rfl))) (by decide) (backOf (W := 0) (rm10g l Z a0 hw [] x o k cap d bs h0 n0 Z0 row (by omega) pr1) hZ (hw _ (List.mem_of_getElem? (i := 66) rfl)) (hw _ (List.mem_of_getElem? (i := 7) rfl)) (by decide) (by decide)) q1577a q1577c (g := (mkF m 10 #[.val (.ref o), .val (.int (Int32.ofNat n)), .val (.int (Int32.ofNat i)), .val (.int (1 : Int32)), .val (.int (Int32.ofNat en))] [(.ref o)])) rfl (by rw [hml]; rfl) (Steps.refl _) (argsL := []) (rest := []) (lenOf pd_5 rfl) rfl (by show 2 * 0 + _ ≤ _; exact Nat.le_of_eq rfl) (own_hb hby d6_10) (fun _ _ => ⟨rfl, e0, (by decide : 0 + 4 ≤ _), (by decide : 0 + 24 ≤ _)⟩)
      dsimp only [Pt.U, Pt.locs, Pt.cells, Pt.slots] at X1577 l1577 y1577 z1577 st1577 hQ1577
      subst l1577 y1577 z1577
      obtain ⟨cap'1577, rfl, N1577q, K1577, p1577_0⟩ := hQ1577
      have N1577 := Fr.app N0 N1577q
      refine own_Go.of (S' := (T1577.setTop (mkF m 13 #[.val (.ref o), .val (.int (Int32.ofNat n)), .val (.int (Int32.ofNat i)), .val (.int (1 : Int32)), .val (.int (Int32.ofNat en))] []))) (fun t kt => st1577.trans kt) ?_
      have kx1578 := kx0.trans K1577
      have f1579 := pr1.kx K1577
      have z1580 := Nat.le_trans Z0 K1577.1
      refine own_Go.of (S' := (T1577.setTop (mkF m 26 #[.val (.ref o), .val (.int (Int32.ofNat n)), .val (.int (Int32.ofNat i)), .val (.int (1 : Int32)), .val (.int (Int32.ofNat en))] []))) (fun t kt => ?_) ?_
      · show Steps p.tables e below (T1577.setTop (mkF m 13 #[.val (.ref o), .val (.int (Int32.ofNat n)), .val (.int (Int32.ofNat i)), .val (.int (1 : Int32)), .val (.int (Int32.ofNat en))] [])) _
        refine XS.goto X1577.here hx rfl (pc0 := 13) (pc' := 26) rfl (own_hb hby d6_13) (by decide) (by decide) ?_
        exact kt
      have hki : k = i := by omega
      have hDk : d k = 0 := by rw [hki, hD (by omega)]; exact if_neg (by decide)
      exact own_retV X1577 hx hlk hret (own_hb hby d6_26) rfl ⟨cap'1577, rfl, N1577, kx1578, by rw [show min (i + 1) n = k + 1 by omega]; exact p1577_0.cast (own_scast hDk)⟩ (by decide) (by decide)
    · skip
      refine own_Go.of (S' := (T0.setTop (mkF m 26 #[.val (.ref o), .val (.int (Int32.ofNat n)), .val (.int (Int32.ofNat i)), .val (.int (1 : Int32)), .val (.int (Int32.ofNat en))] []))) (fun t kt => ?_) ?_
      · show Steps p.tables e below (T0.setTop (mkF m 2 #[.val (.ref o), .val (.int (Int32.ofNat n)), .val (.int (Int32.ofNat i)), .val (.int (1 : Int32)), .val (.int (Int32.ofNat en))] [(.int (Int32.ofNat n)), (.int (Int32.ofNat i))])) _
        refine XS.icmpYes X0.here hx rfl (pc0 := 2) (pc' := 26) rfl (own_hb hby d6_2) rfl (flt (fun q => hc2_1576 ((own_ltN (by omega) (by omega)).mp q))).2.1 (by decide) (by decide) ?_
        exact kt
      exact own_retV X0 hx hlk hret (own_hb hby d6_26) e0 ⟨cap, rfl, N0, kx0, by rw [show min (i + 1) n = k by omega]; exact row⟩ (by decide) (by decide)
def Q_rm7 (Z : State) (o : Addr) (x : Addr) (k : Nat) (cap : Nat) (d : Nat → Int32) (n : Nat) (f : Nat → Value) (h0 : Heap) (n0 : Nat) (v : Option Value) (h : Heap) (L : List Loc) : Prop := ∃ res : Int32, v = some (.int res) ∧ Fr n0 L ∧ h = h0 ∧ ((res = (-1 : Int32) ∧ ∀ i, i < k → ¬ Int32.ofNat n < d i) ∨ ∃ i, i < k ∧ res = Int32.ofNat i ∧ Int32.ofNat n < d i ∧ ∀ j, j < i → ¬ Int32.ofNat n < d j)
theorem d7_0 : decode prog_62_method_6_code 0 = .ok (.aload_n 0, 1) := by decide +kernel
theorem d7_1 : decode prog_62_method_6_code 1 = .ok (.getfield 37, 3) := by decide +kernel
theorem d7_4 : decode prog_62_method_6_code 4 = .ok (.aload_n 0, 1) := by decide +kernel
theorem d7_5 : decode prog_62_method_6_code 5 = .ok (.getfield 7, 3) := by decide +kernel
theorem d7_8 : decode prog_62_method_6_code 8 = .ok (.arraylength, 1) := by decide +kernel
theorem d7_9 : decode prog_62_method_6_code 9 = .ok (.if_icmp .gt 5, 3) := by decide +kernel
theorem d7_12 : decode prog_62_method_6_code 12 = .ok (.iconst (-1), 1) := by decide +kernel
theorem d7_13 : decode prog_62_method_6_code 13 = .ok (.ireturn, 1) := by decide +kernel
theorem d7_14 : decode prog_62_method_6_code 14 = .ok (.iconst 0, 1) := by decide +kernel
theorem d7_15 : decode prog_62_method_6_code 15 = .ok (.istore_n 1, 1) := by decide +kernel
theorem d7_16 : decode prog_62_method_6_code 16 = .ok (.aload_n 0, 1) := by decide +kernel
theorem d7_17 : decode prog_62_method_6_code 17 = .ok (.getfield 17, 3) := by decide +kernel
theorem d7_20 : decode prog_62_method_6_code 20 = .ok (.iload_n 1, 1) := by decide +kernel
theorem d7_21 : decode prog_62_method_6_code 21 = .ok (.iaload, 1) := by decide +kernel
theorem d7_22 : decode prog_62_method_6_code 22 = .ok (.aload_n 0, 1) := by decide +kernel
theorem d7_23 : decode prog_62_method_6_code 23 = .ok (.getfield 7, 3) := by decide +kernel
theorem d7_26 : decode prog_62_method_6_code 26 = .ok (.arraylength, 1) := by decide +kernel
theorem d7_27 : decode prog_62_method_6_code 27 = .ok (.if_icmp .gt 9, 3) := by decide +kernel
theorem d7_30 : decode prog_62_method_6_code 30 = .ok (.iinc 1 1, 3) := by decide +kernel
theorem d7_33 : decode prog_62_method_6_code 33 = .ok (.goto (-17), 3) := by decide +kernel
theorem d7_36 : decode prog_62_method_6_code 36 = .ok (.iload_n 1, 1) := by decide +kernel
theorem d7_37 : decode prog_62_method_6_code 37 = .ok (.ireturn, 1) := by decide +kernel
theorem pn_7 : plainName "com/example/quayside/quayside/Row" = true := by first | (simp [plainName, overriddenIn]; done) | decide +kernel
set_option maxRecDepth 65536 in
set_option maxHeartbeats 40000000 in
theorem loop7 {p : Program} {l : Launch} {e : Env} {s : State} {m : MethodId} {below : List Frame} {meth : Method} {c : Code} {Z : State} {a0 : Array Value} (hw : ∀ d ∈ tables_1, d.before a0 Z = true) (hx : p.tables.exec = Jvm.exec) (hZ : Z.Warmed39 s.vm) (hby : c.code = prog_62_method_6_code) (hml : c.maxLocals = 2) (hret : meth.sig.returnType = some .int) (hlk : meth.locks = false) (hown : s.vm.findClass "com/example/quayside/quayside/Row" = some m.cls) (hnm : meth.name = "beyondBytes") (o : Addr) (x : Addr) (k : Nat) (cap : Nat) (d : Nat → Int32) (n : Nat) (f : Nat → Value) (h0 : Heap) (n0 : Nat) (re : Addr) (ge : Nat → Int32) (z : Nat) (hz : z < k) (hkc : k ≤ cap) (hcap : cap = 4 ∨ cap = 8) (hL : Int32.ofNat n < d z) (hge : ∀ i, i < k → ge i = d i) (hn : n ≤ 7) :
    ∀ (k' : Nat) (i : Nat) {T1 : State} {h1 : Heap} {locs : List Loc}, Stand p l e ({ frames := 0, cells := 0, slots := 0, locals := 0 } : Room) s m #[(.ref o)] below meth c T1 locs 0 0 → T1.heap = h1 → Fr n0 locs → n0 ≤ h1.size → (i + k' = z) → (Fld Z h1 o "com/example/quayside/quayside/Row" "ends" "[I" (.ref re)) → (Fld Z h1 o "com/example/quayside/quayside/Row" "bytes" "[B" (.ref x)) → (own_Ar Z h1 re .int cap (own_I ge)) → (own_Ar Z h1 x .byte n f) → (∀ j, j < i → ¬ Int32.ofNat n < d j) → (h1 = h0) → 
    own_Go p e below (T1.setTop (mkF m 16 #[.val (.ref o), .val (.int (Int32.ofNat i))] [])) (own_End s (Q_rm7 Z o x k cap d n f h0 n0) ({ frames := 0, cells := 0, slots := 0, locals := 0 } : Room).cells ({ frames := 0, cells := 0, slots := 0, locals := 0 } : Room).slots) := by
  intro k'
  induction k' with
  | zero =>
    intro i T1 h1 locs X1 e1 N1 Z1 hit pr1 pr2 pr3 pr4 hnot hh
    refine own_Go.of (S' := (T1.setTop (mkF m 17 #[.val (.ref o), .val (.int (Int32.ofNat i))] [(.ref o)]))) (fun t kt => ?_) ?_
    · show Steps p.tables e below (T1.setTop (mkF m 16 #[.val (.ref o), .val (.int (Int32.ofNat i))] [])) _
      refine XS.aloadN X1.here hx rfl (own_hb hby d7_16) rfl rfl ?_
      exact kt
    obtain ⟨T1581, X1581, e1581, st1581⟩ := getF X1 hx hZ hown (host := "") (Or.inl (hw _ (List.mem_of_getElem? (i := 19) rfl))) Via.refl e1 pr1 (g := (mkF m 17 #[.val (.ref o), .val (.int (Int32.ofNat i))] [(.ref o)])) rfl rfl (own_hb hby d7_17)
    refine own_Go.of (S' := (T1581.setTop (mkF m 20 #[.val (.ref o), .val (.int (Int32.ofNat i))] [(.ref re)]))) st1581 ?_
    refine own_Go.of (S' := (T1581.setTop (mkF m 21 #[.val (.ref o), .val (.int (Int32.ofNat i))] [(.int (Int32.ofNat i)), (.ref re)]))) (fun t kt => ?_) ?_
    · show Steps p.tables e below (T1581.setTop (mkF m 20 #[.val (.ref o), .val (.int (Int32.ofNat i))] [(.ref re)])) _
      refine XS.iloadN X1581.here hx rfl (own_hb hby d7_20) rfl ?_
      exact kt
    obtain ⟨cl1582, Ar1582, hin1582, hat1582⟩ := own_Ar.get (j := (Int32.ofNat i)) (k := i) pr3 ⟨rfl, by omega⟩
    refine own_Go.of (S' := (T1581.setTop (mkF m 23 #[.val (.ref o), .val (.int (Int32.ofNat i))] [(.ref o), (.int (ge i))]))) (fun t kt => ?_) ?_
    · show Steps p.tables e below (T1581.setTop (mkF m 21 #[.val (.ref o), .val (.int (Int32.ofNat i))] [(.int (Int32.ofNat i)), (.ref re)])) _
      refine X1581.iaload hx (j := (Int32.ofNat i)) (v := (.int (ge i))) (by rw [e1581]; exact Ar1582.1) (State.isArrayOf_alike hZ.alike Ar1582.2.1) Ar1582.2.2 hin1582 hat1582 (g := (mkF m 21 #[.val (.ref o), .val (.int (Int32.ofNat i))] [(.int (Int32.ofNat i)), (.ref re)])) rfl rfl (own_hb hby d7_21) _ ?_
      refine XS.aloadN X1581.here hx rfl (own_hb hby d7_22) rfl rfl ?_
      exact kt
    obtain ⟨T1583, X1583, e1583, st1583⟩ := getF X1581 hx hZ hown (host := "") (Or.inl (hw _ (List.mem_of_getElem? (i := 14) rfl))) Via.refl e1581 pr2 (g := (mkF m 23 #[.val (.ref o), .val (.int (Int32.ofNat i))] [(.ref o), (.int (ge i))])) rfl rfl (own_hb hby d7_23)
    refine own_Go.of (S' := (T1583.setTop (mkF m 26 #[.val (.ref o), .val (.int (Int32.ofNat i))] [(.ref x), (.int (ge i))]))) st1583 ?_
    obtain ⟨cl1584, Ar1584, hln1584⟩ := own_Ar.len pr4
    refine own_Go.of (S' := (T1583.setTop (mkF m 37 #[.val (.ref o), .val (.int (Int32.ofNat i))] [(.int (Int32.ofNat i))]))) (fun t kt => ?_) ?_
    · show Steps p.tables e below (T1583.setTop (mkF m 26 #[.val (.ref o), .val (.int (Int32.ofNat i))] [(.ref x), (.int (ge i))])) _
      refine X1583.arraylength hx (by rw [e1583]; exact Ar1584.1) (State.isArrayOf_alike hZ.alike Ar1584.2.1) (g := (mkF m 26 #[.val (.ref o), .val (.int (Int32.ofNat i))] [(.ref x), (.int (ge i))])) rfl rfl (own_hb hby d7_26) _ ?_
      rw [hln1584]
      refine XS.icmpYes X1583.here hx rfl (pc0 := 27) (pc' := 36) rfl (own_hb hby d7_27) rfl (tlt (by rw [hge i (by omega), show i = z by omega]; exact hL)).2.2.1 (by decide) (by decide) ?_
      refine XS.iloadN X1583.here hx rfl (own_hb hby d7_36) rfl ?_
      exact kt
    exact own_retI X1583 hx hlk hret (own_hb hby d7_37) e1583 ⟨Int32.ofNat i, rfl, N1, hh, Or.inr ⟨i, by omega, rfl, by rw [show i = z by omega]; exact hL, hnot⟩⟩ (by decide) (by decide)
  | succ k' ih =>
    intro i T1 h1 locs X1 e1 N1 Z1 hit pr1 pr2 pr3 pr4 hnot hh
    refine own_Go.of (S' := (T1.setTop (mkF m 17 #[.val (.ref o), .val (.int (Int32.ofNat i))] [(.ref o)]))) (fun t kt => ?_) ?_
    · show Steps p.tables e below (T1.setTop (mkF m 16 #[.val (.ref o), .val (.int (Int32.ofNat i))] [])) _
      refine XS.aloadN X1.here hx rfl (own_hb hby d7_16) rfl rfl ?_
      exact kt
    obtain ⟨T1585, X1585, e1585, st1585⟩ := getF X1 hx hZ hown (host := "") (Or.inl (hw _ (List.mem_of_getElem? (i := 19) rfl))) Via.refl e1 pr1 (g := (mkF m 17 #[.val (.ref o), .val (.int (Int32.ofNat i))] [(.ref o)])) rfl rfl (own_hb hby d7_17)
    refine own_Go.of (S' := (T1585.setTop (mkF m 20 #[.val (.ref o), .val (.int (Int32.ofNat i))] [(.ref re)]))) st1585 ?_
    refine own_Go.of (S' := (T1585.setTop (mkF m 21 #[.val (.ref o), .val (.int (Int32.ofNat i))] [(.int (Int32.ofNat i)), (.ref re)]))) (fun t kt => ?_) ?_
    · show Steps p.tables e below (T1585.setTop (mkF m 20 #[.val (.ref o), .val (.int (Int32.ofNat i))] [(.ref re)])) _
      refine XS.iloadN X1585.here hx rfl (own_hb hby d7_20) rfl ?_
      exact kt
    obtain ⟨cl1586, Ar1586, hin1586, hat1586⟩ := own_Ar.get (j := (Int32.ofNat i)) (k := i) pr3 ⟨rfl, by omega⟩
    refine own_Go.of (S' := (T1585.setTop (mkF m 23 #[.val (.ref o), .val (.int (Int32.ofNat i))] [(.ref o), (.int (ge i))]))) (fun t kt => ?_) ?_
    · show Steps p.tables e below (T1585.setTop (mkF m 21 #[.val (.ref o), .val (.int (Int32.ofNat i))] [(.int (Int32.ofNat i)), (.ref re)])) _
      refine X1585.iaload hx (j := (Int32.ofNat i)) (v := (.int (ge i))) (by rw [e1585]; exact Ar1586.1) (State.isArrayOf_alike hZ.alike Ar1586.2.1) Ar1586.2.2 hin1586 hat1586 (g := (mkF m 21 #[.val (.ref o), .val (.int (Int32.ofNat i))] [(.int (Int32.ofNat i)), (.ref re)])) rfl rfl (own_hb hby d7_21) _ ?_
      refine XS.aloadN X1585.here hx rfl (own_hb hby d7_22) rfl rfl ?_
      exact kt
    obtain ⟨T1587, X1587, e1587, st1587⟩ := getF X1585 hx hZ hown (host := "") (Or.inl (hw _ (List.mem_of_getElem? (i := 14) rfl))) Via.refl e1585 pr2 (g := (mkF m 23 #[.val (.ref o), .val (.int (Int32.ofNat i))] [(.ref o), (.int (ge i))])) rfl rfl (own_hb hby d7_23)
    refine own_Go.of (S' := (T1587.setTop (mkF m 26 #[.val (.ref o), .val (.int (Int32.ofNat i))] [(.ref x), (.int (ge i))]))) st1587 ?_
    obtain ⟨cl1588, Ar1588, hln1588⟩ := own_Ar.len pr4
    refine own_Go.of (S' := (T1587.setTop (mkF m 27 #[.val (.ref o), .val (.int (Int32.ofNat i))] [(.int (Int32.ofNat n)), (.int (ge i))]))) (fun t kt => ?_) ?_
    · show Steps p.tables e below (T1587.setTop (mkF m 26 #[.val (.ref o), .val (.int (Int32.ofNat i))] [(.ref x), (.int (ge i))])) _
      refine X1587.arraylength hx (by rw [e1587]; exact Ar1588.1) (State.isArrayOf_alike hZ.alike Ar1588.2.1) (g := (mkF m 26 #[.val (.ref o), .val (.int (Int32.ofNat i))] [(.ref x), (.int (ge i))])) rfl rfl (own_hb hby d7_26) _ ?_
      rw [hln1588]
      exact kt
    by_cases hc27_1589 : (Int32.ofNat n) < (ge i)
    · skip
      refine own_Go.of (S' := (T1587.setTop (mkF m 37 #[.val (.ref o), .val (.int (Int32.ofNat i))] [(.int (Int32.ofNat i))]))) (fun t kt => ?_) ?_
      · show Steps p.tables e below (T1587.setTop (mkF m 27 #[.val (.ref o), .val (.int (Int32.ofNat i))] [(.int (Int32.ofNat n)), (.int (ge i))])) _
        refine XS.icmpYes X1587.here hx rfl (pc0 := 27) (pc' := 36) rfl (own_hb hby d7_27) rfl (tlt hc27_1589).2.2.1 (by decide) (by decide) ?_
        refine XS.iloadN X1587.here hx rfl (own_hb hby d7_36) rfl ?_
        exact kt
      exact own_retI X1587 hx hlk hret (own_hb hby d7_37) e1587 ⟨Int32.ofNat i, rfl, N1, hh, Or.inr ⟨i, by omega, rfl, by have q := hc27_1589; rw [hge i (by omega)] at q; exact q, hnot⟩⟩ (by decide) (by decide)
    · skip
      refine own_Go.of (S' := (T1587.setTop (mkF m 16 #[.val (.ref o), .val (.int ((Int32.ofNat i) + (1 : Int32)))] []))) (fun t kt => ?_) ?_
      · show Steps p.tables e below (T1587.setTop (mkF m 27 #[.val (.ref o), .val (.int (Int32.ofNat i))] [(.int (Int32.ofNat n)), (.int (ge i))])) _
        refine XS.icmpNo X1587.here hx rfl (own_hb hby d7_27) rfl (flt hc27_1589).2.2.1 ?_
        refine XS.iinc X1587.here hx rfl (own_hb hby d7_30) rfl (l' := #[.val (.ref o), .val (.int ((Int32.ofNat i) + (1 : Int32)))]) rfl ?_
        refine XS.goto X1587.here hx rfl (pc0 := 33) (pc' := 16) rfl (own_hb hby d7_33) (by decide) (by decide) ?_
        exact kt
      refine own_Go.of (S' := (T1587.setTop (mkF m 16 #[.val (.ref o), .val (.int (Int32.ofNat (i + 1)))] []))) (fun t kt => ?_) ?_
      · show Steps p.tables e below (T1587.setTop (mkF m 16 #[.val (.ref o), .val (.int ((Int32.ofNat i) + (1 : Int32)))] [])) _
        rw [show Int32.ofNat i + (1 : Int32) = Int32.ofNat (i + 1) from own_addN i 1]
        exact kt
      exact ih (i + 1) X1587 e1587 N1 Z1 (by omega) pr1 pr2 pr3 pr4 (fun j hj => by rcases Nat.lt_succ_iff_lt_or_eq.mp hj with q | q; exact hnot j q; rw [q]; intro q2; exact hc27_1589 (by rw [hge i (by omega)]; exact q2)) hh

theorem own_lt3 {a b c : Int32} (h1 : ¬ a < b) (h2 : a < c) : b < c := by
  rw [Int32.lt_iff_toInt_lt] at *
  omega
theorem own_lt0 (n : Nat) (hn : n < 2 ^ 31) : ¬ Int32.ofNat n < 0 := (own_clamp (k := n) hn).2
set_option maxRecDepth 65536 in
set_option maxHeartbeats 40000000 in
theorem rm7 (l : Launch) (Z : State) (a0 : Array Value) (hw : ∀ d ∈ tables_1, d.before a0 Z = true) (ws : List Jvm.Cond) (o : Addr) (x : Addr) (k : Nat) (cap : Nat) (d : Nat → Int32) (n : Nat) (f : Nat → Value) (h0 : Heap) (n0 : Nat) (Z0 : n0 ≤ h0.size) (row : own_Row Z h0 n0 x o k cap d x) (pr1 : own_Ar Z h0 x .byte n f) (hn : n ≤ 7) :
    own_Met l Z h0 (⟨"com/example/quayside/quayside/Row", "beyondBytes", "()I"⟩ : MethodName) prog_62_method_6_code 2 (some .int) ws ({ frames := 0, cells := 0, slots := 0, locals := 0 } : Room) #[(.ref o)] (Q_rm7 Z o x k cap d n f h0 n0) := by
  refine own_enter (plainFor_of_name pn_7) ?_
  intro p e s m below meth c T0 X0 hx hby hml hret hlk hown hnm hZ e0
  have N0 := Fr.nil n0
  rw [show entryFrame m #[(.ref o)] 2 = (mkF m 0 #[.val (.ref o), .unset] []) from by first | (simp [entryFrame, mkF, argsToLocals, Value.category]; done) | rfl]
  obtain ⟨rs, re, gs, ge, tx, r, hE, hF1, hF2, hF3, hF4, hF5, hF6, hA1, hA2, hg1, hg2, hg3, hn1, hn2, hn3, hn4, hn5, hn6, hkc, hcap, ⟨hge, hR1, hR2, hR3⟩, hN⟩ := row
  refine own_Go.of (S' := (T0.setTop (mkF m 1 #[.val (.ref o), .unset] [(.ref o)]))) (fun t kt => ?_) ?_
  · show Steps p.tables e below (T0.setTop (mkF m 0 #[.val (.ref o), .unset] [])) _
    refine XS.aloadN X0.here hx rfl (own_hb hby d7_0) rfl rfl ?_
    exact kt
  obtain ⟨T1590, X1590, e1590, st1590⟩ := getF X0 hx hZ hown (host := "") (Or.inl (hw _ (List.mem_of_getElem? (i := 49) rfl))) Via.refl e0 hF4 (g := (mkF m 1 #[.val (.ref o), .unset] [(.ref o)])) rfl rfl (own_hb hby d7_1)
  refine own_Go.of (S' := (T1590.setTop (mkF m 4 #[.val (.ref o), .unset] [(.int r)]))) st1590 ?_
  refine own_Go.of (S' := (T1590.setTop (mkF m 5 #[.val (.ref o), .unset] [(.ref o), (.int r)]))) (fun t kt => ?_) ?_
  · show Steps p.tables e below (T1590.setTop (mkF m 4 #[.val (.ref o), .unset] [(.int r)])) _
    refine XS.aloadN X1590.here hx rfl (own_hb hby d7_4) rfl rfl ?_
    exact kt
  obtain ⟨T1591, X1591, e1591, st1591⟩ := getF X1590 hx hZ hown (host := "") (Or.inl (hw _ (List.mem_of_getElem? (i := 14) rfl))) Via.refl e1590 hF6 (g := (mkF m 5 #[.val (.ref o), .unset] [(.ref o), (.int r)])) rfl rfl (own_hb hby d7_5)
  refine own_Go.of (S' := (T1591.setTop (mkF m 8 #[.val (.ref o), .unset] [(.ref x), (.int r)]))) st1591 ?_
  obtain ⟨cl1592, Ar1592, hln1592⟩ := own_Ar.len pr1
  refine own_Go.of (S' := (T1591.setTop (mkF m 9 #[.val (.ref o), .unset] [(.int (Int32.ofNat n)), (.int r)]))) (fun t kt => ?_) ?_
  · show Steps p.tables e below (T1591.setTop (mkF m 8 #[.val (.ref o), .unset] [(.ref x), (.int r)])) _
    refine X1591.arraylength hx (by rw [e1591]; exact Ar1592.1) (State.isArrayOf_alike hZ.alike Ar1592.2.1) (g := (mkF m 8 #[.val (.ref o), .unset] [(.ref x), (.int r)])) rfl rfl (own_hb hby d7_8) _ ?_
    rw [hln1592]
    exact kt
  by_cases hc9_1593 : (Int32.ofNat n) < r
  · skip
    refine own_Go.of (S' := (T1591.setTop (mkF m 14 #[.val (.ref o), .unset] []))) (fun t kt => ?_) ?_
    · show Steps p.tables e below (T1591.setTop (mkF m 9 #[.val (.ref o), .unset] [(.int (Int32.ofNat n)), (.int r)])) _
      refine XS.icmpYes X1591.here hx rfl (pc0 := 9) (pc' := 14) rfl (own_hb hby d7_9) rfl (tlt hc9_1593).2.2.1 (by decide) (by decide) ?_
      exact kt
    obtain ⟨z, hz, hL⟩ : ∃ z, z < k ∧ Int32.ofNat n < d z := by
      rcases hR3 with q | ⟨z, hz, q⟩
      · rw [q] at hc9_1593; exact absurd hc9_1593 (own_lt0 n (by omega))
      · exact ⟨z, hz, by rw [q]; exact hc9_1593⟩
    refine own_Go.of (S' := (T1591.setTop (mkF m 16 #[.val (.ref o), .val (.int (0 : Int32))] []))) (fun t kt => ?_) ?_
    · show Steps p.tables e below (T1591.setTop (mkF m 14 #[.val (.ref o), .unset] [])) _
      refine XS.iconst X1591.here hx rfl (own_hb hby d7_14) ?_
      refine XS.istoreN X1591.here hx rfl (own_hb hby d7_15) rfl (l' := #[.val (.ref o), .val (.int (0 : Int32))]) rfl ?_
      exact kt
    exact loop7 hw hx hZ hby hml hret hlk hown hnm o x k cap d n f h0 n0 re ge z hz hkc hcap hL hge hn z 0 (own_mono X1591 (by decide) (by decide)) e1591 N0 Z0 (Nat.zero_add z) hF2 hF6 hA2 pr1 (fun j hj => absurd hj (Nat.not_lt_zero j)) rfl
  · skip
    refine own_Go.of (S' := (T1591.setTop (mkF m 13 #[.val (.ref o), .unset] [(.int (-1 : Int32))]))) (fun t kt => ?_) ?_
    · show Steps p.tables e below (T1591.setTop (mkF m 9 #[.val (.ref o), .unset] [(.int (Int32.ofNat n)), (.int r)])) _
      refine XS.icmpNo X1591.here hx rfl (own_hb hby d7_9) rfl (flt hc9_1593).2.2.1 ?_
      refine XS.iconst X1591.here hx rfl (own_hb hby d7_12) ?_
      exact kt
    exact own_retI X1591 hx hlk hret (own_hb hby d7_13) e1591 ⟨_, rfl, N0, rfl, Or.inl ⟨rfl, fun i hi q => hR1 i hi (own_lt3 hc9_1593 q)⟩⟩ (by decide) (by decide)

/-- one block of the law: the place i is the answer where its condition holds, else the elder answer stays -/
theorem own_blk {i n L d : Nat} {b v w lit : Int32} (h : (v = lit ∧ i < n ∧ b = (0 : Int32) ∧ L < d) ∨ (v = w ∧ i < n ∧ b = (0 : Int32) ∧ ¬ (L < d)) ∨ (v = w ∧ i < n ∧ ¬ (b = (0 : Int32))) ∨ (v = w ∧ ¬ (i < n))) :
    (v = lit ∧ (i < n ∧ b = (0 : Int32) ∧ L < d)) ∨ (v = w ∧ ¬ (i < n ∧ b = (0 : Int32) ∧ L < d)) := by
  rcases h with ⟨q, q1, q2, q3⟩ | ⟨q, q1, q2, q3⟩ | ⟨q, q1, q2⟩ | ⟨q, q1⟩
  · exact Or.inl ⟨q, q1, q2, q3⟩
  · exact Or.inr ⟨q, fun z => q3 z.2.2⟩
  · exact Or.inr ⟨q, fun z => q2 z.2.1⟩
  · exact Or.inr ⟨q, fun z => q1 z.1⟩
theorem own_cnd {i n L e : Nat} {b : Int32} {d : Nat → Int32} (hL : L ≤ 7) (he : e ≤ 2147483647) (hb : b = 0 ∨ b = 1) (hD : i < n → d i = if b = 0 then Int32.ofNat e else 0) :
    (i < n ∧ b = (0 : Int32) ∧ L < e) ↔ (i < n ∧ Int32.ofNat L < d i) := by
  constructor
  · rintro ⟨h1, h2, h3⟩
    refine ⟨h1, ?_⟩
    rw [hD h1, if_pos h2, own_ltN (by omega) (by omega)]
    exact h3
  · rintro ⟨h1, h2⟩
    rw [hD h1] at h2
    rcases hb with rfl | rfl
    · rw [if_pos rfl, own_ltN (by omega) (by omega)] at h2
      exact ⟨h1, rfl, h2⟩
    · rw [if_neg (by decide)] at h2
      exact absurd h2 (own_lt0 L (by omega))
theorem own_bbfin {n L : Nat} {d : Nat → Int32} {res v0 v1 v2 v3 v4 : Int32} {c0 c1 c2 c3 c4 : Prop} (hn : n ≤ 5)
    (spec : (res = (-1 : Int32) ∧ ∀ i, i < n → ¬ Int32.ofNat L < d i) ∨ ∃ i, i < n ∧ res = Int32.ofNat i ∧ Int32.ofNat L < d i ∧ ∀ j, j < i → ¬ Int32.ofNat L < d j)
    (h4 : (v4 = (4 : Int32) ∧ c4) ∨ (v4 = (-1 : Int32) ∧ ¬ c4)) (h3 : (v3 = (3 : Int32) ∧ c3) ∨ (v3 = v4 ∧ ¬ c3)) (h2 : (v2 = (2 : Int32) ∧ c2) ∨ (v2 = v3 ∧ ¬ c2)) (h1 : (v1 = (1 : Int32) ∧ c1) ∨ (v1 = v2 ∧ ¬ c1)) (h0 : (v0 = (0 : Int32) ∧ c0) ∨ (v0 = v1 ∧ ¬ c0))
    (q0 : c0 ↔ (0 < n ∧ Int32.ofNat L < d 0)) (q1 : c1 ↔ (1 < n ∧ Int32.ofNat L < d 1)) (q2 : c2 ↔ (2 < n ∧ Int32.ofNat L < d 2)) (q3 : c3 ↔ (3 < n ∧ Int32.ofNat L < d 3)) (q4 : c4 ↔ (4 < n ∧ Int32.ofNat L < d 4)) : res = v0 := by
  rcases spec with ⟨hr, hs⟩ | ⟨i, hi, hr, hd, hs⟩
  · have n0 : ¬ c0 := fun q => hs 0 (q0.mp q).1 (q0.mp q).2
    have n1 : ¬ c1 := fun q => hs 1 (q1.mp q).1 (q1.mp q).2
    have n2 : ¬ c2 := fun q => hs 2 (q2.mp q).1 (q2.mp q).2
    have n3 : ¬ c3 := fun q => hs 3 (q3.mp q).1 (q3.mp q).2
    have n4 : ¬ c4 := fun q => hs 4 (q4.mp q).1 (q4.mp q).2
    have e4 := (h4.resolve_left fun q => n4 q.2).1
    have e3 := (h3.resolve_left fun q => n3 q.2).1
    have e2 := (h2.resolve_left fun q => n2 q.2).1
    have e1 := (h1.resolve_left fun q => n1 q.2).1
    have e0 := (h0.resolve_left fun q => n0 q.2).1
    rw [hr, e0, e1, e2, e3, e4]
  · obtain rfl | rfl | rfl | rfl | rfl : i = 0 ∨ i = 1 ∨ i = 2 ∨ i = 3 ∨ i = 4 := by omega
    · rw [hr, (h0.resolve_right fun q => q.2 (q0.mpr ⟨hi, hd⟩)).1]; rfl
    · have n0 : ¬ c0 := fun q => hs 0 (by decide) (q0.mp q).2
      rw [hr, (h0.resolve_left fun q => n0 q.2).1, (h1.resolve_right fun q => q.2 (q1.mpr ⟨hi, hd⟩)).1]; rfl
    · have n0 : ¬ c0 := fun q => hs 0 (by decide) (q0.mp q).2
      have n1 : ¬ c1 := fun q => hs 1 (by decide) (q1.mp q).2
      rw [hr, (h0.resolve_left fun q => n0 q.2).1, (h1.resolve_left fun q => n1 q.2).1, (h2.resolve_right fun q => q.2 (q2.mpr ⟨hi, hd⟩)).1]; rfl
    · have n0 : ¬ c0 := fun q => hs 0 (by decide) (q0.mp q).2
      have n1 : ¬ c1 := fun q => hs 1 (by decide) (q1.mp q).2
      have n2 : ¬ c2 := fun q => hs 2 (by decide) (q2.mp q).2
      rw [hr, (h0.resolve_left fun q => n0 q.2).1, (h1.resolve_left fun q => n1 q.2).1, (h2.resolve_left fun q => n2 q.2).1, (h3.resolve_right fun q => q.2 (q3.mpr ⟨hi, hd⟩)).1]; rfl
    · have n0 : ¬ c0 := fun q => hs 0 (by decide) (q0.mp q).2
      have n1 : ¬ c1 := fun q => hs 1 (by decide) (q1.mp q).2
      have n2 : ¬ c2 := fun q => hs 2 (by decide) (q2.mp q).2
      have n3 : ¬ c3 := fun q => hs 3 (by decide) (q3.mp q).2
      rw [hr, (h0.resolve_left fun q => n0 q.2).1, (h1.resolve_left fun q => n1 q.2).1, (h2.resolve_left fun q => n2 q.2).1, (h3.resolve_left fun q => n3 q.2).1, (h4.resolve_right fun q => q.2 (q4.mpr ⟨hi, hd⟩)).1]; rfl
def Q_rm0 (Z : State) (p0 : Int32) (p1 : Int32) (p2 : Int32) (p3 : Int32) (p4 : Int32) (p5 : Int32) (h0 : Heap) (n0 : Nat) (v : Option Value) (h : Heap) (L : List Loc) : Prop := v = some (.int (1 : Int32)) ∧ Fr n0 L
theorem pn_0 : plainName "com/example/quayside/quayside/RowBeyondBytesPinLaw" = true := by first | (simp [plainName, overriddenIn]; done) | decide +kernel
theorem pd_6 : parseMethodDescriptor "()I" = some ⟨[], some .int⟩ := by decide +kernel
set_option maxRecDepth 65536 in
set_option maxHeartbeats 40000000 in
theorem seg275 {p : Program} {l : Launch} {e : Env} {s : State} {vm0 : Vm} {kk : Nat} {m : MethodId} {below : List Frame} {meth : Method} {c : Code} {Z : State} {a0 : Array Value} (hw : ∀ d ∈ tables_1, d.before a0 Z = true) (hx : p.tables.exec = Jvm.exec) (hZ : Z.Warmed39 (s.setVm vm0).vm) (hS1 : s.Since vm0 kk) (hby : c.code = code) (hml : c.maxLocals = 24) (hret : meth.sig.returnType = ret) (hlk : meth.locks = false) (hown : (s.setVm vm0).vm.findClass "com/example/quayside/quayside/RowBeyondBytesPinLaw" = some m.cls) (hnm : meth.name = "law") (p0 : Int32) (p1 : Int32) (p2 : Int32) (p3 : Int32) (p4 : Int32) (p5 : Int32) (h0 : Heap) (n0 : Nat) (ln : Nat) (n : Nat) (b0 : Int32) (b1 : Int32) (b2 : Int32) (b3 : Int32) (b4 : Int32) (i13 : Int32) (i14 : Int32) (en0 : Nat) (en1 : Nat) (en2 : Nat) (en3 : Nat) (en4 : Nat) (x : Addr) (o : Addr) (cap : Nat) (d : Nat → Int32) (f : Nat → Value)
    {T1 : State} {h1 : Heap} {locs : List Loc} (X1 : Stand p l e room_1 (s.setVm vm0) m #[(.int p0), (.int p1), (.int p2), (.int p3), (.int p4), (.int p5)] below meth c T1 locs 29 215) (e1 : T1.heap = h1) (N1 : Fr n0 locs) (Z1 : n0 ≤ h1.size) (row : own_Row Z h1 n0 x o n cap d x) (pr1 : own_Ar Z h1 x .byte ln f) (hln : ln ≤ 7) (hn : n ≤ 5) (hb0 : b0 = 0 ∨ b0 = 1) (hb1 : b1 = 0 ∨ b1 = 1) (hb2 : b2 = 0 ∨ b2 = 1) (hb3 : b3 = 0 ∨ b3 = 1) (hb4 : b4 = 0 ∨ b4 = 1) (he0 : en0 ≤ 2147483647) (he1 : en1 ≤ 2147483647) (he2 : en2 ≤ 2147483647) (he3 : en3 ≤ 2147483647) (he4 : en4 ≤ 2147483647) (hD0 : 0 < n → d 0 = if b0 = 0 then Int32.ofNat en0 else 0) (hD1 : 1 < n → d 1 = if b1 = 0 then Int32.ofNat en1 else 0) (hD2 : 2 < n → d 2 = if b2 = 0 then Int32.ofNat en2 else 0) (hD3 : 3 < n → d 3 = if b3 = 0 then Int32.ofNat en3 else 0) (hD4 : 4 < n → d 4 = if b4 = 0 then Int32.ofNat en4 else 0) (hk1 : kk ≤ h1.size) :
    own_Go p e below (T1.setTop (mkF m 275 #[.val (.int p0), .val (.int p1), .val (.int p2), .val (.int p3), .val (.int p4), .val (.int p5), .val (.int (Int32.ofNat ln)), .val (.int (Int32.ofNat n)), .val (.int b0), .val (.int b1), .val (.int b2), .val (.int b3), .val (.int b4), .val (.int i13), .val (.int i14), .val (.int (Int32.ofNat en0)), .val (.int (Int32.ofNat en1)), .val (.int (Int32.ofNat en2)), .val (.int (Int32.ofNat en3)), .val (.int (Int32.ofNat en4)), .val (.ref x), .val (.ref o), .unset, .unset] [])) (own_EndW s (Q_rm0 Z p0 p1 p2 p3 p4 p5 h0 n0) room_1.cells room_1.slots) := by
  have hwS : ∀ a ∈ Bundle.stringAtoms, a.before a0 Z = true := fun d hd => hw d ((by decide +kernel : ∀ d ∈ Bundle.stringAtoms, d ∈ tables_1) d hd)
  refine own_Go.of (S' := (T1.setTop (mkF m 277 #[.val (.int p0), .val (.int p1), .val (.int p2), .val (.int p3), .val (.int p4), .val (.int p5), .val (.int (Int32.ofNat ln)), .val (.int (Int32.ofNat n)), .val (.int b0), .val (.int b1), .val (.int b2), .val (.int b3), .val (.int b4), .val (.int i13), .val (.int i14), .val (.int (Int32.ofNat en0)), .val (.int (Int32.ofNat en1)), .val (.int (Int32.ofNat en2)), .val (.int (Int32.ofNat en3)), .val (.int (Int32.ofNat en4)), .val (.ref x), .val (.ref o), .unset, .unset] [(.ref o)]))) (fun t kt => ?_) ?_
  · show Steps p.tables e below (T1.setTop (mkF m 275 #[.val (.int p0), .val (.int p1), .val (.int p2), .val (.int p3), .val (.int p4), .val (.int p5), .val (.int (Int32.ofNat ln)), .val (.int (Int32.ofNat n)), .val (.int b0), .val (.int b1), .val (.int b2), .val (.int b3), .val (.int b4), .val (.int i13), .val (.int i14), .val (.int (Int32.ofNat en0)), .val (.int (Int32.ofNat en1)), .val (.int (Int32.ofNat en2)), .val (.int (Int32.ofNat en3)), .val (.int (Int32.ofNat en4)), .val (.ref x), .val (.ref o), .unset, .unset] [])) _
    refine XS.aload X1.here hx rfl (own_hb hby at_275) rfl rfl ?_
    exact kt
  obtain ⟨cq1594, kq1594, q1594a, q1594b, q1594c⟩ := isOf hZ e1 row.exa
  obtain ⟨_, _, ⟨T1594, L1594, k1594, n1594⟩, -, X1594, ⟨Lc1594, hQ1594, l1594, y1594, z1594⟩, st1594⟩ := X1.virtualBack hx (y := (⟨"com/example/quayside/quayside/Row", "beyondBytes", "()I"⟩ : MethodName)) (z := (⟨"com/example/quayside/quayside/Row", "beyondBytes", "()I"⟩ : MethodName)) hown (mvT hZ (hw _ (List.mem_of_getElem? (i := 44) rfl))) (mvT hZ (hw _ (List.mem_of_getElem? (i := 45) rfl))) (notFace_of_selects (args := #[]) (mvT hZ (hw _ (List.mem_of_getElem? (i := 47) rfl)))) (mvT hZ (hw _ (List.mem_of_getElem? (i := 47) rfl))) (mvT hZ (hw _ (List.mem_of_getElem? (i := 46) rfl))) (by decide) (backOf (W := 0) (rm7 l Z a0 hw [] o x n cap d ln f h1 n0 Z1 row pr1 hln) hZ (hw _ (List.mem_of_getElem? (i := 48) rfl)) (hw _ (List.mem_of_getElem? (i := 7) rfl)) (by decide) (by decide)) q1594a q1594c (g := (mkF m 277 #[.val (.int p0), .val (.int p1), .val (.int p2), .val (.int p3), .val (.int p4), .val (.int p5), .val (.int (Int32.ofNat ln)), .val (.int (Int32.ofNat n)), .val (.int b0), .val (.int b1), .val (.int b2), .val (.int b3), .val (.int b4), .val (.int i13), .val (.int i14), .val (.int (Int32.ofNat en0)), .val (.int (Int32.ofNat en1)), .val (.int (Int32.ofNat en2)), .val (.int (Int32.ofNat en3)), .val (.int (Int32.ofNat en4)), .val (.ref x), .val (.ref o), .unset, .unset] [(.ref o)])) rfl (by rw [hml]; rfl) (Steps.refl _) (argsL := []) (rest := []) (lenOf pd_6 rfl) rfl (by show 2 * 0 + _ ≤ _; exact Nat.le_of_eq rfl) (own_hb hby at_277) (fun _ _ => ⟨rfl, e1, (by decide : 29 + 0 ≤ _), (by decide : 215 + 0 ≤ _)⟩)
  dsimp only [Pt.U, Pt.locs, Pt.cells, Pt.slots] at X1594 l1594 y1594 z1594 st1594 hQ1594
  subst l1594 y1594 z1594
  obtain ⟨res1594, rfl, N1594q, hh1594, p1594_0⟩ := hQ1594
  have N1594 := Fr.app N1 N1594q
  refine own_Go.of (S' := (T1594.setTop (mkF m 280 #[.val (.int p0), .val (.int p1), .val (.int p2), .val (.int p3), .val (.int p4), .val (.int p5), .val (.int (Int32.ofNat ln)), .val (.int (Int32.ofNat n)), .val (.int b0), .val (.int b1), .val (.int b2), .val (.int b3), .val (.int b4), .val (.int i13), .val (.int i14), .val (.int (Int32.ofNat en0)), .val (.int (Int32.ofNat en1)), .val (.int (Int32.ofNat en2)), .val (.int (Int32.ofNat en3)), .val (.int (Int32.ofNat en4)), .val (.ref x), .val (.ref o), .unset, .unset] [(.int res1594)]))) (fun t kt => st1594.trans kt) ?_
  refine own_Go.of (S' := (T1594.setTop (mkF m 288 #[.val (.int p0), .val (.int p1), .val (.int p2), .val (.int p3), .val (.int p4), .val (.int p5), .val (.int (Int32.ofNat ln)), .val (.int (Int32.ofNat n)), .val (.int b0), .val (.int b1), .val (.int b2), .val (.int b3), .val (.int b4), .val (.int i13), .val (.int i14), .val (.int (Int32.ofNat en0)), .val (.int (Int32.ofNat en1)), .val (.int (Int32.ofNat en2)), .val (.int (Int32.ofNat en3)), .val (.int (Int32.ofNat en4)), .val (.ref x), .val (.ref o), .val (.int res1594), .val (.int (-1 : Int32))] [(.int (4 : Int32)), (.int (Int32.ofNat n))]))) (fun t kt => ?_) ?_
  · show Steps p.tables e below (T1594.setTop (mkF m 280 #[.val (.int p0), .val (.int p1), .val (.int p2), .val (.int p3), .val (.int p4), .val (.int p5), .val (.int (Int32.ofNat ln)), .val (.int (Int32.ofNat n)), .val (.int b0), .val (.int b1), .val (.int b2), .val (.int b3), .val (.int b4), .val (.int i13), .val (.int i14), .val (.int (Int32.ofNat en0)), .val (.int (Int32.ofNat en1)), .val (.int (Int32.ofNat en2)), .val (.int (Int32.ofNat en3)), .val (.int (Int32.ofNat en4)), .val (.ref x), .val (.ref o), .unset, .unset] [(.int res1594)])) _
    refine XS.istore X1594.here hx rfl (own_hb hby at_280) rfl (l' := #[.val (.int p0), .val (.int p1), .val (.int p2), .val (.int p3), .val (.int p4), .val (.int p5), .val (.int (Int32.ofNat ln)), .val (.int (Int32.ofNat n)), .val (.int b0), .val (.int b1), .val (.int b2), .val (.int b3), .val (.int b4), .val (.int i13), .val (.int i14), .val (.int (Int32.ofNat en0)), .val (.int (Int32.ofNat en1)), .val (.int (Int32.ofNat en2)), .val (.int (Int32.ofNat en3)), .val (.int (Int32.ofNat en4)), .val (.ref x), .val (.ref o), .val (.int res1594), .unset]) rfl ?_
    refine XS.iconst X1594.here hx rfl (own_hb hby at_282) ?_
    refine XS.istore X1594.here hx rfl (own_hb hby at_283) rfl (l' := #[.val (.int p0), .val (.int p1), .val (.int p2), .val (.int p3), .val (.int p4), .val (.int p5), .val (.int (Int32.ofNat ln)), .val (.int (Int32.ofNat n)), .val (.int b0), .val (.int b1), .val (.int b2), .val (.int b3), .val (.int b4), .val (.int i13), .val (.int i14), .val (.int (Int32.ofNat en0)), .val (.int (Int32.ofNat en1)), .val (.int (Int32.ofNat en2)), .val (.int (Int32.ofNat en3)), .val (.int (Int32.ofNat en4)), .val (.ref x), .val (.ref o), .val (.int res1594), .val (.int (-1 : Int32))]) rfl ?_
    refine XS.iload X1594.here hx rfl (own_hb hby at_285) rfl ?_
    show Steps p.tables e below (T1594.setTop (mkF m 287 #[.val (.int p0), .val (.int p1), .val (.int p2), .val (.int p3), .val (.int p4), .val (.int p5), .val (.int (Int32.ofNat ln)), .val (.int (Int32.ofNat n)), .val (.int b0), .val (.int b1), .val (.int b2), .val (.int b3), .val (.int b4), .val (.int i13), .val (.int i14), .val (.int (Int32.ofNat en0)), .val (.int (Int32.ofNat en1)), .val (.int (Int32.ofNat en2)), .val (.int (Int32.ofNat en3)), .val (.int (Int32.ofNat en4)), .val (.ref x), .val (.ref o), .val (.int res1594), .val (.int (-1 : Int32))] [(.int (Int32.ofNat n))])) _
    refine XS.iconst X1594.here hx rfl (own_hb hby at_287) ?_
    exact kt
  obtain ⟨v1598, hd1600, st1599⟩ : ∃ v1598 : Int32, ((v1598 = (4 : Int32) ∧ 4 < n ∧ b4 = (0 : Int32) ∧ ln < en4) ∨ (v1598 = (-1 : Int32) ∧ 4 < n ∧ b4 = (0 : Int32) ∧ ¬ (ln < en4)) ∨ (v1598 = (-1 : Int32) ∧ 4 < n ∧ ¬ (b4 = (0 : Int32))) ∨ (v1598 = (-1 : Int32) ∧ ¬ (4 < n))) ∧ ∀ t, Steps p.tables e below (T1594.setTop (mkF m 306 #[.val (.int p0), .val (.int p1), .val (.int p2), .val (.int p3), .val (.int p4), .val (.int p5), .val (.int (Int32.ofNat ln)), .val (.int (Int32.ofNat n)), .val (.int b0), .val (.int b1), .val (.int b2), .val (.int b3), .val (.int b4), .val (.int i13), .val (.int i14), .val (.int (Int32.ofNat en0)), .val (.int (Int32.ofNat en1)), .val (.int (Int32.ofNat en2)), .val (.int (Int32.ofNat en3)), .val (.int (Int32.ofNat en4)), .val (.ref x), .val (.ref o), .val (.int res1594), .val (.int v1598)] [])) t → Steps p.tables e below (T1594.setTop (mkF m 288 #[.val (.int p0), .val (.int p1), .val (.int p2), .val (.int p3), .val (.int p4), .val (.int p5), .val (.int (Int32.ofNat ln)), .val (.int (Int32.ofNat n)), .val (.int b0), .val (.int b1), .val (.int b2), .val (.int b3), .val (.int b4), .val (.int i13), .val (.int i14), .val (.int (Int32.ofNat en0)), .val (.int (Int32.ofNat en1)), .val (.int (Int32.ofNat en2)), .val (.int (Int32.ofNat en3)), .val (.int (Int32.ofNat en4)), .val (.ref x), .val (.ref o), .val (.int res1594), .val (.int (-1 : Int32))] [(.int (4 : Int32)), (.int (Int32.ofNat n))])) t := by
    by_cases hc288_1595 : 4 < n
    · skip
      by_cases hc293_1596 : b4 = (0 : Int32)
      · skip
        by_cases hc300_1597 : ln < en4
        · skip
          refine ⟨(4 : Int32), (Or.inl (⟨rfl, hc288_1595, hc293_1596, hc300_1597⟩)), fun t kt => ?_⟩
          show Steps p.tables e below (T1594.setTop (mkF m 288 #[.val (.int p0), .val (.int p1), .val (.int p2), .val (.int p3), .val (.int p4), .val (.int p5), .val (.int (Int32.ofNat ln)), .val (.int (Int32.ofNat n)), .val (.int b0), .val (.int b1), .val (.int b2), .val (.int b3), .val (.int b4), .val (.int i13), .val (.int i14), .val (.int (Int32.ofNat en0)), .val (.int (Int32.ofNat en1)), .val (.int (Int32.ofNat en2)), .val (.int (Int32.ofNat en3)), .val (.int (Int32.ofNat en4)), .val (.ref x), .val (.ref o), .val (.int res1594), .val (.int (-1 : Int32))] [(.int (4 : Int32)), (.int (Int32.ofNat n))])) _
          refine XS.icmpNo X1594.here hx rfl (own_hb hby at_288) rfl (tlt ((own_ltN (by omega) (by omega)).mpr hc288_1595)).2.2.2 ?_
          refine XS.iload X1594.here hx rfl (own_hb hby at_291) rfl ?_
          refine XS.ifNo X1594.here hx rfl (own_hb hby at_293) rfl ((if0 _ _).trans (teq hc293_1596).2) ?_
          refine XS.iload X1594.here hx rfl (own_hb hby at_296) rfl ?_
          show Steps p.tables e below (T1594.setTop (mkF m 298 #[.val (.int p0), .val (.int p1), .val (.int p2), .val (.int p3), .val (.int p4), .val (.int p5), .val (.int (Int32.ofNat ln)), .val (.int (Int32.ofNat n)), .val (.int b0), .val (.int b1), .val (.int b2), .val (.int b3), .val (.int b4), .val (.int i13), .val (.int i14), .val (.int (Int32.ofNat en0)), .val (.int (Int32.ofNat en1)), .val (.int (Int32.ofNat en2)), .val (.int (Int32.ofNat en3)), .val (.int (Int32.ofNat en4)), .val (.ref x), .val (.ref o), .val (.int res1594), .val (.int (-1 : Int32))] [(.int (Int32.ofNat en4))])) _
          refine XS.iload X1594.here hx rfl (own_hb hby at_298) rfl ?_
          refine XS.icmpNo X1594.here hx rfl (own_hb hby at_300) rfl (tlt ((own_ltN (by omega) (by omega)).mpr hc300_1597)).2.2.2 ?_
          refine XS.iconst X1594.here hx rfl (own_hb hby at_303) ?_
          refine XS.istore X1594.here hx rfl (own_hb hby at_304) rfl (l' := #[.val (.int p0), .val (.int p1), .val (.int p2), .val (.int p3), .val (.int p4), .val (.int p5), .val (.int (Int32.ofNat ln)), .val (.int (Int32.ofNat n)), .val (.int b0), .val (.int b1), .val (.int b2), .val (.int b3), .val (.int b4), .val (.int i13), .val (.int i14), .val (.int (Int32.ofNat en0)), .val (.int (Int32.ofNat en1)), .val (.int (Int32.ofNat en2)), .val (.int (Int32.ofNat en3)), .val (.int (Int32.ofNat en4)), .val (.ref x), .val (.ref o), .val (.int res1594), .val (.int (4 : Int32))]) rfl ?_
          exact kt
        · skip
          refine ⟨(-1 : Int32), (Or.inr (Or.inl (⟨rfl, hc288_1595, hc293_1596, hc300_1597⟩))), fun t kt => ?_⟩
          show Steps p.tables e below (T1594.setTop (mkF m 288 #[.val (.int p0), .val (.int p1), .val (.int p2), .val (.int p3), .val (.int p4), .val (.int p5), .val (.int (Int32.ofNat ln)), .val (.int (Int32.ofNat n)), .val (.int b0), .val (.int b1), .val (.int b2), .val (.int b3), .val (.int b4), .val (.int i13), .val (.int i14), .val (.int (Int32.ofNat en0)), .val (.int (Int32.ofNat en1)), .val (.int (Int32.ofNat en2)), .val (.int (Int32.ofNat en3)), .val (.int (Int32.ofNat en4)), .val (.ref x), .val (.ref o), .val (.int res1594), .val (.int (-1 : Int32))] [(.int (4 : Int32)), (.int (Int32.ofNat n))])) _
          refine XS.icmpNo X1594.here hx rfl (own_hb hby at_288) rfl (tlt ((own_ltN (by omega) (by omega)).mpr hc288_1595)).2.2.2 ?_
          refine XS.iload X1594.here hx rfl (own_hb hby at_291) rfl ?_
          refine XS.ifNo X1594.here hx rfl (own_hb hby at_293) rfl ((if0 _ _).trans (teq hc293_1596).2) ?_
          refine XS.iload X1594.here hx rfl (own_hb hby at_296) rfl ?_
          show Steps p.tables e below (T1594.setTop (mkF m 298 #[.val (.int p0), .val (.int p1), .val (.int p2), .val (.int p3), .val (.int p4), .val (.int p5), .val (.int (Int32.ofNat ln)), .val (.int (Int32.ofNat n)), .val (.int b0), .val (.int b1), .val (.int b2), .val (.int b3), .val (.int b4), .val (.int i13), .val (.int i14), .val (.int (Int32.ofNat en0)), .val (.int (Int32.ofNat en1)), .val (.int (Int32.ofNat en2)), .val (.int (Int32.ofNat en3)), .val (.int (Int32.ofNat en4)), .val (.ref x), .val (.ref o), .val (.int res1594), .val (.int (-1 : Int32))] [(.int (Int32.ofNat en4))])) _
          refine XS.iload X1594.here hx rfl (own_hb hby at_298) rfl ?_
          refine XS.icmpYes X1594.here hx rfl (pc0 := 300) (pc' := 306) rfl (own_hb hby at_300) rfl (flt (fun q => hc300_1597 ((own_ltN (by omega) (by omega)).mp q))).2.2.2 (by decide) (by decide) ?_
          exact kt
      · skip
        refine ⟨(-1 : Int32), (Or.inr (Or.inr (Or.inl (⟨rfl, hc288_1595, hc293_1596⟩)))), fun t kt => ?_⟩
        show Steps p.tables e below (T1594.setTop (mkF m 288 #[.val (.int p0), .val (.int p1), .val (.int p2), .val (.int p3), .val (.int p4), .val (.int p5), .val (.int (Int32.ofNat ln)), .val (.int (Int32.ofNat n)), .val (.int b0), .val (.int b1), .val (.int b2), .val (.int b3), .val (.int b4), .val (.int i13), .val (.int i14), .val (.int (Int32.ofNat en0)), .val (.int (Int32.ofNat en1)), .val (.int (Int32.ofNat en2)), .val (.int (Int32.ofNat en3)), .val (.int (Int32.ofNat en4)), .val (.ref x), .val (.ref o), .val (.int res1594), .val (.int (-1 : Int32))] [(.int (4 : Int32)), (.int (Int32.ofNat n))])) _
        refine XS.icmpNo X1594.here hx rfl (own_hb hby at_288) rfl (tlt ((own_ltN (by omega) (by omega)).mpr hc288_1595)).2.2.2 ?_
        refine XS.iload X1594.here hx rfl (own_hb hby at_291) rfl ?_
        refine XS.ifYes X1594.here hx rfl (pc0 := 293) (pc' := 306) rfl (own_hb hby at_293) rfl ((if0 _ _).trans (feq hc293_1596).2) (by decide) (by decide) ?_
        exact kt
    · skip
      refine ⟨(-1 : Int32), (Or.inr (Or.inr (Or.inr (⟨rfl, hc288_1595⟩)))), fun t kt => ?_⟩
      show Steps p.tables e below (T1594.setTop (mkF m 288 #[.val (.int p0), .val (.int p1), .val (.int p2), .val (.int p3), .val (.int p4), .val (.int p5), .val (.int (Int32.ofNat ln)), .val (.int (Int32.ofNat n)), .val (.int b0), .val (.int b1), .val (.int b2), .val (.int b3), .val (.int b4), .val (.int i13), .val (.int i14), .val (.int (Int32.ofNat en0)), .val (.int (Int32.ofNat en1)), .val (.int (Int32.ofNat en2)), .val (.int (Int32.ofNat en3)), .val (.int (Int32.ofNat en4)), .val (.ref x), .val (.ref o), .val (.int res1594), .val (.int (-1 : Int32))] [(.int (4 : Int32)), (.int (Int32.ofNat n))])) _
      refine XS.icmpYes X1594.here hx rfl (pc0 := 288) (pc' := 306) rfl (own_hb hby at_288) rfl (flt (fun q => hc288_1595 ((own_ltN (by omega) (by omega)).mp q))).2.2.2 (by decide) (by decide) ?_
      exact kt
  refine own_Go.of (S' := (T1594.setTop (mkF m 306 #[.val (.int p0), .val (.int p1), .val (.int p2), .val (.int p3), .val (.int p4), .val (.int p5), .val (.int (Int32.ofNat ln)), .val (.int (Int32.ofNat n)), .val (.int b0), .val (.int b1), .val (.int b2), .val (.int b3), .val (.int b4), .val (.int i13), .val (.int i14), .val (.int (Int32.ofNat en0)), .val (.int (Int32.ofNat en1)), .val (.int (Int32.ofNat en2)), .val (.int (Int32.ofNat en3)), .val (.int (Int32.ofNat en4)), .val (.ref x), .val (.ref o), .val (.int res1594), .val (.int v1598)] []))) st1599 ?_
  have bkhd1600 := own_blk hd1600
  refine own_Go.of (S' := (T1594.setTop (mkF m 309 #[.val (.int p0), .val (.int p1), .val (.int p2), .val (.int p3), .val (.int p4), .val (.int p5), .val (.int (Int32.ofNat ln)), .val (.int (Int32.ofNat n)), .val (.int b0), .val (.int b1), .val (.int b2), .val (.int b3), .val (.int b4), .val (.int i13), .val (.int i14), .val (.int (Int32.ofNat en0)), .val (.int (Int32.ofNat en1)), .val (.int (Int32.ofNat en2)), .val (.int (Int32.ofNat en3)), .val (.int (Int32.ofNat en4)), .val (.ref x), .val (.ref o), .val (.int res1594), .val (.int v1598)] [(.int (3 : Int32)), (.int (Int32.ofNat n))]))) (fun t kt => ?_) ?_
  · show Steps p.tables e below (T1594.setTop (mkF m 306 #[.val (.int p0), .val (.int p1), .val (.int p2), .val (.int p3), .val (.int p4), .val (.int p5), .val (.int (Int32.ofNat ln)), .val (.int (Int32.ofNat n)), .val (.int b0), .val (.int b1), .val (.int b2), .val (.int b3), .val (.int b4), .val (.int i13), .val (.int i14), .val (.int (Int32.ofNat en0)), .val (.int (Int32.ofNat en1)), .val (.int (Int32.ofNat en2)), .val (.int (Int32.ofNat en3)), .val (.int (Int32.ofNat en4)), .val (.ref x), .val (.ref o), .val (.int res1594), .val (.int v1598)] [])) _
    refine XS.iload X1594.here hx rfl (own_hb hby at_306) rfl ?_
    refine XS.iconst X1594.here hx rfl (own_hb hby at_308) ?_
    exact kt
  obtain ⟨v1604, hd1606, st1605⟩ : ∃ v1604 : Int32, ((v1604 = (3 : Int32) ∧ 3 < n ∧ b3 = (0 : Int32) ∧ ln < en3) ∨ (v1604 = v1598 ∧ 3 < n ∧ b3 = (0 : Int32) ∧ ¬ (ln < en3)) ∨ (v1604 = v1598 ∧ 3 < n ∧ ¬ (b3 = (0 : Int32))) ∨ (v1604 = v1598 ∧ ¬ (3 < n))) ∧ ∀ t, Steps p.tables e below (T1594.setTop (mkF m 327 #[.val (.int p0), .val (.int p1), .val (.int p2), .val (.int p3), .val (.int p4), .val (.int p5), .val (.int (Int32.ofNat ln)), .val (.int (Int32.ofNat n)), .val (.int b0), .val (.int b1), .val (.int b2), .val (.int b3), .val (.int b4), .val (.int i13), .val (.int i14), .val (.int (Int32.ofNat en0)), .val (.int (Int32.ofNat en1)), .val (.int (Int32.ofNat en2)), .val (.int (Int32.ofNat en3)), .val (.int (Int32.ofNat en4)), .val (.ref x), .val (.ref o), .val (.int res1594), .val (.int v1604)] [])) t → Steps p.tables e below (T1594.setTop (mkF m 309 #[.val (.int p0), .val (.int p1), .val (.int p2), .val (.int p3), .val (.int p4), .val (.int p5), .val (.int (Int32.ofNat ln)), .val (.int (Int32.ofNat n)), .val (.int b0), .val (.int b1), .val (.int b2), .val (.int b3), .val (.int b4), .val (.int i13), .val (.int i14), .val (.int (Int32.ofNat en0)), .val (.int (Int32.ofNat en1)), .val (.int (Int32.ofNat en2)), .val (.int (Int32.ofNat en3)), .val (.int (Int32.ofNat en4)), .val (.ref x), .val (.ref o), .val (.int res1594), .val (.int v1598)] [(.int (3 : Int32)), (.int (Int32.ofNat n))])) t := by
    by_cases hc309_1601 : 3 < n
    · skip
      by_cases hc314_1602 : b3 = (0 : Int32)
      · skip
        by_cases hc321_1603 : ln < en3
        · skip
          refine ⟨(3 : Int32), (Or.inl (⟨rfl, hc309_1601, hc314_1602, hc321_1603⟩)), fun t kt => ?_⟩
          show Steps p.tables e below (T1594.setTop (mkF m 309 #[.val (.int p0), .val (.int p1), .val (.int p2), .val (.int p3), .val (.int p4), .val (.int p5), .val (.int (Int32.ofNat ln)), .val (.int (Int32.ofNat n)), .val (.int b0), .val (.int b1), .val (.int b2), .val (.int b3), .val (.int b4), .val (.int i13), .val (.int i14), .val (.int (Int32.ofNat en0)), .val (.int (Int32.ofNat en1)), .val (.int (Int32.ofNat en2)), .val (.int (Int32.ofNat en3)), .val (.int (Int32.ofNat en4)), .val (.ref x), .val (.ref o), .val (.int res1594), .val (.int v1598)] [(.int (3 : Int32)), (.int (Int32.ofNat n))])) _
          refine XS.icmpNo X1594.here hx rfl (own_hb hby at_309) rfl (tlt ((own_ltN (by omega) (by omega)).mpr hc309_1601)).2.2.2 ?_
          refine XS.iload X1594.here hx rfl (own_hb hby at_312) rfl ?_
          refine XS.ifNo X1594.here hx rfl (own_hb hby at_314) rfl ((if0 _ _).trans (teq hc314_1602).2) ?_
          refine XS.iload X1594.here hx rfl (own_hb hby at_317) rfl ?_
          show Steps p.tables e below (T1594.setTop (mkF m 319 #[.val (.int p0), .val (.int p1), .val (.int p2), .val (.int p3), .val (.int p4), .val (.int p5), .val (.int (Int32.ofNat ln)), .val (.int (Int32.ofNat n)), .val (.int b0), .val (.int b1), .val (.int b2), .val (.int b3), .val (.int b4), .val (.int i13), .val (.int i14), .val (.int (Int32.ofNat en0)), .val (.int (Int32.ofNat en1)), .val (.int (Int32.ofNat en2)), .val (.int (Int32.ofNat en3)), .val (.int (Int32.ofNat en4)), .val (.ref x), .val (.ref o), .val (.int res1594), .val (.int v1598)] [(.int (Int32.ofNat en3))])) _
          refine XS.iload X1594.here hx rfl (own_hb hby at_319) rfl ?_
          refine XS.icmpNo X1594.here hx rfl (own_hb hby at_321) rfl (tlt ((own_ltN (by omega) (by omega)).mpr hc321_1603)).2.2.2 ?_
          refine XS.iconst X1594.here hx rfl (own_hb hby at_324) ?_
          refine XS.istore X1594.here hx rfl (own_hb hby at_325) rfl (l' := #[.val (.int p0), .val (.int p1), .val (.int p2), .val (.int p3), .val (.int p4), .val (.int p5), .val (.int (Int32.ofNat ln)), .val (.int (Int32.ofNat n)), .val (.int b0), .val (.int b1), .val (.int b2), .val (.int b3), .val (.int b4), .val (.int i13), .val (.int i14), .val (.int (Int32.ofNat en0)), .val (.int (Int32.ofNat en1)), .val (.int (Int32.ofNat en2)), .val (.int (Int32.ofNat en3)), .val (.int (Int32.ofNat en4)), .val (.ref x), .val (.ref o), .val (.int res1594), .val (.int (3 : Int32))]) rfl ?_
          exact kt
        · skip
          refine ⟨v1598, (Or.inr (Or.inl (⟨rfl, hc309_1601, hc314_1602, hc321_1603⟩))), fun t kt => ?_⟩
          show Steps p.tables e below (T1594.setTop (mkF m 309 #[.val (.int p0), .val (.int p1), .val (.int p2), .val (.int p3), .val (.int p4), .val (.int p5), .val (.int (Int32.ofNat ln)), .val (.int (Int32.ofNat n)), .val (.int b0), .val (.int b1), .val (.int b2), .val (.int b3), .val (.int b4), .val (.int i13), .val (.int i14), .val (.int (Int32.ofNat en0)), .val (.int (Int32.ofNat en1)), .val (.int (Int32.ofNat en2)), .val (.int (Int32.ofNat en3)), .val (.int (Int32.ofNat en4)), .val (.ref x), .val (.ref o), .val (.int res1594), .val (.int v1598)] [(.int (3 : Int32)), (.int (Int32.ofNat n))])) _
          refine XS.icmpNo X1594.here hx rfl (own_hb hby at_309) rfl (tlt ((own_ltN (by omega) (by omega)).mpr hc309_1601)).2.2.2 ?_
          refine XS.iload X1594.here hx rfl (own_hb hby at_312) rfl ?_
          refine XS.ifNo X1594.here hx rfl (own_hb hby at_314) rfl ((if0 _ _).trans (teq hc314_1602).2) ?_
          refine XS.iload X1594.here hx rfl (own_hb hby at_317) rfl ?_
          show Steps p.tables e below (T1594.setTop (mkF m 319 #[.val (.int p0), .val (.int p1), .val (.int p2), .val (.int p3), .val (.int p4), .val (.int p5), .val (.int (Int32.ofNat ln)), .val (.int (Int32.ofNat n)), .val (.int b0), .val (.int b1), .val (.int b2), .val (.int b3), .val (.int b4), .val (.int i13), .val (.int i14), .val (.int (Int32.ofNat en0)), .val (.int (Int32.ofNat en1)), .val (.int (Int32.ofNat en2)), .val (.int (Int32.ofNat en3)), .val (.int (Int32.ofNat en4)), .val (.ref x), .val (.ref o), .val (.int res1594), .val (.int v1598)] [(.int (Int32.ofNat en3))])) _
          refine XS.iload X1594.here hx rfl (own_hb hby at_319) rfl ?_
          refine XS.icmpYes X1594.here hx rfl (pc0 := 321) (pc' := 327) rfl (own_hb hby at_321) rfl (flt (fun q => hc321_1603 ((own_ltN (by omega) (by omega)).mp q))).2.2.2 (by decide) (by decide) ?_
          exact kt
      · skip
        refine ⟨v1598, (Or.inr (Or.inr (Or.inl (⟨rfl, hc309_1601, hc314_1602⟩)))), fun t kt => ?_⟩
        show Steps p.tables e below (T1594.setTop (mkF m 309 #[.val (.int p0), .val (.int p1), .val (.int p2), .val (.int p3), .val (.int p4), .val (.int p5), .val (.int (Int32.ofNat ln)), .val (.int (Int32.ofNat n)), .val (.int b0), .val (.int b1), .val (.int b2), .val (.int b3), .val (.int b4), .val (.int i13), .val (.int i14), .val (.int (Int32.ofNat en0)), .val (.int (Int32.ofNat en1)), .val (.int (Int32.ofNat en2)), .val (.int (Int32.ofNat en3)), .val (.int (Int32.ofNat en4)), .val (.ref x), .val (.ref o), .val (.int res1594), .val (.int v1598)] [(.int (3 : Int32)), (.int (Int32.ofNat n))])) _
        refine XS.icmpNo X1594.here hx rfl (own_hb hby at_309) rfl (tlt ((own_ltN (by omega) (by omega)).mpr hc309_1601)).2.2.2 ?_
        refine XS.iload X1594.here hx rfl (own_hb hby at_312) rfl ?_
        refine XS.ifYes X1594.here hx rfl (pc0 := 314) (pc' := 327) rfl (own_hb hby at_314) rfl ((if0 _ _).trans (feq hc314_1602).2) (by decide) (by decide) ?_
        exact kt
    · skip
      refine ⟨v1598, (Or.inr (Or.inr (Or.inr (⟨rfl, hc309_1601⟩)))), fun t kt => ?_⟩
      show Steps p.tables e below (T1594.setTop (mkF m 309 #[.val (.int p0), .val (.int p1), .val (.int p2), .val (.int p3), .val (.int p4), .val (.int p5), .val (.int (Int32.ofNat ln)), .val (.int (Int32.ofNat n)), .val (.int b0), .val (.int b1), .val (.int b2), .val (.int b3), .val (.int b4), .val (.int i13), .val (.int i14), .val (.int (Int32.ofNat en0)), .val (.int (Int32.ofNat en1)), .val (.int (Int32.ofNat en2)), .val (.int (Int32.ofNat en3)), .val (.int (Int32.ofNat en4)), .val (.ref x), .val (.ref o), .val (.int res1594), .val (.int v1598)] [(.int (3 : Int32)), (.int (Int32.ofNat n))])) _
      refine XS.icmpYes X1594.here hx rfl (pc0 := 309) (pc' := 327) rfl (own_hb hby at_309) rfl (flt (fun q => hc309_1601 ((own_ltN (by omega) (by omega)).mp q))).2.2.2 (by decide) (by decide) ?_
      exact kt
  refine own_Go.of (S' := (T1594.setTop (mkF m 327 #[.val (.int p0), .val (.int p1), .val (.int p2), .val (.int p3), .val (.int p4), .val (.int p5), .val (.int (Int32.ofNat ln)), .val (.int (Int32.ofNat n)), .val (.int b0), .val (.int b1), .val (.int b2), .val (.int b3), .val (.int b4), .val (.int i13), .val (.int i14), .val (.int (Int32.ofNat en0)), .val (.int (Int32.ofNat en1)), .val (.int (Int32.ofNat en2)), .val (.int (Int32.ofNat en3)), .val (.int (Int32.ofNat en4)), .val (.ref x), .val (.ref o), .val (.int res1594), .val (.int v1604)] []))) st1605 ?_
  have bkhd1606 := own_blk hd1606
  refine own_Go.of (S' := (T1594.setTop (mkF m 330 #[.val (.int p0), .val (.int p1), .val (.int p2), .val (.int p3), .val (.int p4), .val (.int p5), .val (.int (Int32.ofNat ln)), .val (.int (Int32.ofNat n)), .val (.int b0), .val (.int b1), .val (.int b2), .val (.int b3), .val (.int b4), .val (.int i13), .val (.int i14), .val (.int (Int32.ofNat en0)), .val (.int (Int32.ofNat en1)), .val (.int (Int32.ofNat en2)), .val (.int (Int32.ofNat en3)), .val (.int (Int32.ofNat en4)), .val (.ref x), .val (.ref o), .val (.int res1594), .val (.int v1604)] [(.int (2 : Int32)), (.int (Int32.ofNat n))]))) (fun t kt => ?_) ?_
  · show Steps p.tables e below (T1594.setTop (mkF m 327 #[.val (.int p0), .val (.int p1), .val (.int p2), .val (.int p3), .val (.int p4), .val (.int p5), .val (.int (Int32.ofNat ln)), .val (.int (Int32.ofNat n)), .val (.int b0), .val (.int b1), .val (.int b2), .val (.int b3), .val (.int b4), .val (.int i13), .val (.int i14), .val (.int (Int32.ofNat en0)), .val (.int (Int32.ofNat en1)), .val (.int (Int32.ofNat en2)), .val (.int (Int32.ofNat en3)), .val (.int (Int32.ofNat en4)), .val (.ref x), .val (.ref o), .val (.int res1594), .val (.int v1604)] [])) _
    refine XS.iload X1594.here hx rfl (own_hb hby at_327) rfl ?_
    refine XS.iconst X1594.here hx rfl (own_hb hby at_329) ?_
    exact kt
  obtain ⟨v1610, hd1612, st1611⟩ : ∃ v1610 : Int32, ((v1610 = (2 : Int32) ∧ 2 < n ∧ b2 = (0 : Int32) ∧ ln < en2) ∨ (v1610 = v1604 ∧ 2 < n ∧ b2 = (0 : Int32) ∧ ¬ (ln < en2)) ∨ (v1610 = v1604 ∧ 2 < n ∧ ¬ (b2 = (0 : Int32))) ∨ (v1610 = v1604 ∧ ¬ (2 < n))) ∧ ∀ t, Steps p.tables e below (T1594.setTop (mkF m 348 #[.val (.int p0), .val (.int p1), .val (.int p2), .val (.int p3), .val (.int p4), .val (.int p5), .val (.int (Int32.ofNat ln)), .val (.int (Int32.ofNat n)), .val (.int b0), .val (.int b1), .val (.int b2), .val (.int b3), .val (.int b4), .val (.int i13), .val (.int i14), .val (.int (Int32.ofNat en0)), .val (.int (Int32.ofNat en1)), .val (.int (Int32.ofNat en2)), .val (.int (Int32.ofNat en3)), .val (.int (Int32.ofNat en4)), .val (.ref x), .val (.ref o), .val (.int res1594), .val (.int v1610)] [])) t → Steps p.tables e below (T1594.setTop (mkF m 330 #[.val (.int p0), .val (.int p1), .val (.int p2), .val (.int p3), .val (.int p4), .val (.int p5), .val (.int (Int32.ofNat ln)), .val (.int (Int32.ofNat n)), .val (.int b0), .val (.int b1), .val (.int b2), .val (.int b3), .val (.int b4), .val (.int i13), .val (.int i14), .val (.int (Int32.ofNat en0)), .val (.int (Int32.ofNat en1)), .val (.int (Int32.ofNat en2)), .val (.int (Int32.ofNat en3)), .val (.int (Int32.ofNat en4)), .val (.ref x), .val (.ref o), .val (.int res1594), .val (.int v1604)] [(.int (2 : Int32)), (.int (Int32.ofNat n))])) t := by
    by_cases hc330_1607 : 2 < n
    · skip
      by_cases hc335_1608 : b2 = (0 : Int32)
      · skip
        by_cases hc342_1609 : ln < en2
        · skip
          refine ⟨(2 : Int32), (Or.inl (⟨rfl, hc330_1607, hc335_1608, hc342_1609⟩)), fun t kt => ?_⟩
          show Steps p.tables e below (T1594.setTop (mkF m 330 #[.val (.int p0), .val (.int p1), .val (.int p2), .val (.int p3), .val (.int p4), .val (.int p5), .val (.int (Int32.ofNat ln)), .val (.int (Int32.ofNat n)), .val (.int b0), .val (.int b1), .val (.int b2), .val (.int b3), .val (.int b4), .val (.int i13), .val (.int i14), .val (.int (Int32.ofNat en0)), .val (.int (Int32.ofNat en1)), .val (.int (Int32.ofNat en2)), .val (.int (Int32.ofNat en3)), .val (.int (Int32.ofNat en4)), .val (.ref x), .val (.ref o), .val (.int res1594), .val (.int v1604)] [(.int (2 : Int32)), (.int (Int32.ofNat n))])) _
          refine XS.icmpNo X1594.here hx rfl (own_hb hby at_330) rfl (tlt ((own_ltN (by omega) (by omega)).mpr hc330_1607)).2.2.2 ?_
          refine XS.iload X1594.here hx rfl (own_hb hby at_333) rfl ?_
          refine XS.ifNo X1594.here hx rfl (own_hb hby at_335) rfl ((if0 _ _).trans (teq hc335_1608).2) ?_
          refine XS.iload X1594.here hx rfl (own_hb hby at_338) rfl ?_
          show Steps p.tables e below (T1594.setTop (mkF m 340 #[.val (.int p0), .val (.int p1), .val (.int p2), .val (.int p3), .val (.int p4), .val (.int p5), .val (.int (Int32.ofNat ln)), .val (.int (Int32.ofNat n)), .val (.int b0), .val (.int b1), .val (.int b2), .val (.int b3), .val (.int b4), .val (.int i13), .val (.int i14), .val (.int (Int32.ofNat en0)), .val (.int (Int32.ofNat en1)), .val (.int (Int32.ofNat en2)), .val (.int (Int32.ofNat en3)), .val (.int (Int32.ofNat en4)), .val (.ref x), .val (.ref o), .val (.int res1594), .val (.int v1604)] [(.int (Int32.ofNat en2))])) _
          refine XS.iload X1594.here hx rfl (own_hb hby at_340) rfl ?_
          refine XS.icmpNo X1594.here hx rfl (own_hb hby at_342) rfl (tlt ((own_ltN (by omega) (by omega)).mpr hc342_1609)).2.2.2 ?_
          refine XS.iconst X1594.here hx rfl (own_hb hby at_345) ?_
          refine XS.istore X1594.here hx rfl (own_hb hby at_346) rfl (l' := #[.val (.int p0), .val (.int p1), .val (.int p2), .val (.int p3), .val (.int p4), .val (.int p5), .val (.int (Int32.ofNat ln)), .val (.int (Int32.ofNat n)), .val (.int b0), .val (.int b1), .val (.int b2), .val (.int b3), .val (.int b4), .val (.int i13), .val (.int i14), .val (.int (Int32.ofNat en0)), .val (.int (Int32.ofNat en1)), .val (.int (Int32.ofNat en2)), .val (.int (Int32.ofNat en3)), .val (.int (Int32.ofNat en4)), .val (.ref x), .val (.ref o), .val (.int res1594), .val (.int (2 : Int32))]) rfl ?_
          exact kt
        · skip
          refine ⟨v1604, (Or.inr (Or.inl (⟨rfl, hc330_1607, hc335_1608, hc342_1609⟩))), fun t kt => ?_⟩
          show Steps p.tables e below (T1594.setTop (mkF m 330 #[.val (.int p0), .val (.int p1), .val (.int p2), .val (.int p3), .val (.int p4), .val (.int p5), .val (.int (Int32.ofNat ln)), .val (.int (Int32.ofNat n)), .val (.int b0), .val (.int b1), .val (.int b2), .val (.int b3), .val (.int b4), .val (.int i13), .val (.int i14), .val (.int (Int32.ofNat en0)), .val (.int (Int32.ofNat en1)), .val (.int (Int32.ofNat en2)), .val (.int (Int32.ofNat en3)), .val (.int (Int32.ofNat en4)), .val (.ref x), .val (.ref o), .val (.int res1594), .val (.int v1604)] [(.int (2 : Int32)), (.int (Int32.ofNat n))])) _
          refine XS.icmpNo X1594.here hx rfl (own_hb hby at_330) rfl (tlt ((own_ltN (by omega) (by omega)).mpr hc330_1607)).2.2.2 ?_
          refine XS.iload X1594.here hx rfl (own_hb hby at_333) rfl ?_
          refine XS.ifNo X1594.here hx rfl (own_hb hby at_335) rfl ((if0 _ _).trans (teq hc335_1608).2) ?_
          refine XS.iload X1594.here hx rfl (own_hb hby at_338) rfl ?_
          show Steps p.tables e below (T1594.setTop (mkF m 340 #[.val (.int p0), .val (.int p1), .val (.int p2), .val (.int p3), .val (.int p4), .val (.int p5), .val (.int (Int32.ofNat ln)), .val (.int (Int32.ofNat n)), .val (.int b0), .val (.int b1), .val (.int b2), .val (.int b3), .val (.int b4), .val (.int i13), .val (.int i14), .val (.int (Int32.ofNat en0)), .val (.int (Int32.ofNat en1)), .val (.int (Int32.ofNat en2)), .val (.int (Int32.ofNat en3)), .val (.int (Int32.ofNat en4)), .val (.ref x), .val (.ref o), .val (.int res1594), .val (.int v1604)] [(.int (Int32.ofNat en2))])) _
          refine XS.iload X1594.here hx rfl (own_hb hby at_340) rfl ?_
          refine XS.icmpYes X1594.here hx rfl (pc0 := 342) (pc' := 348) rfl (own_hb hby at_342) rfl (flt (fun q => hc342_1609 ((own_ltN (by omega) (by omega)).mp q))).2.2.2 (by decide) (by decide) ?_
          exact kt
      · skip
        refine ⟨v1604, (Or.inr (Or.inr (Or.inl (⟨rfl, hc330_1607, hc335_1608⟩)))), fun t kt => ?_⟩
        show Steps p.tables e below (T1594.setTop (mkF m 330 #[.val (.int p0), .val (.int p1), .val (.int p2), .val (.int p3), .val (.int p4), .val (.int p5), .val (.int (Int32.ofNat ln)), .val (.int (Int32.ofNat n)), .val (.int b0), .val (.int b1), .val (.int b2), .val (.int b3), .val (.int b4), .val (.int i13), .val (.int i14), .val (.int (Int32.ofNat en0)), .val (.int (Int32.ofNat en1)), .val (.int (Int32.ofNat en2)), .val (.int (Int32.ofNat en3)), .val (.int (Int32.ofNat en4)), .val (.ref x), .val (.ref o), .val (.int res1594), .val (.int v1604)] [(.int (2 : Int32)), (.int (Int32.ofNat n))])) _
        refine XS.icmpNo X1594.here hx rfl (own_hb hby at_330) rfl (tlt ((own_ltN (by omega) (by omega)).mpr hc330_1607)).2.2.2 ?_
        refine XS.iload X1594.here hx rfl (own_hb hby at_333) rfl ?_
        refine XS.ifYes X1594.here hx rfl (pc0 := 335) (pc' := 348) rfl (own_hb hby at_335) rfl ((if0 _ _).trans (feq hc335_1608).2) (by decide) (by decide) ?_
        exact kt
    · skip
      refine ⟨v1604, (Or.inr (Or.inr (Or.inr (⟨rfl, hc330_1607⟩)))), fun t kt => ?_⟩
      show Steps p.tables e below (T1594.setTop (mkF m 330 #[.val (.int p0), .val (.int p1), .val (.int p2), .val (.int p3), .val (.int p4), .val (.int p5), .val (.int (Int32.ofNat ln)), .val (.int (Int32.ofNat n)), .val (.int b0), .val (.int b1), .val (.int b2), .val (.int b3), .val (.int b4), .val (.int i13), .val (.int i14), .val (.int (Int32.ofNat en0)), .val (.int (Int32.ofNat en1)), .val (.int (Int32.ofNat en2)), .val (.int (Int32.ofNat en3)), .val (.int (Int32.ofNat en4)), .val (.ref x), .val (.ref o), .val (.int res1594), .val (.int v1604)] [(.int (2 : Int32)), (.int (Int32.ofNat n))])) _
      refine XS.icmpYes X1594.here hx rfl (pc0 := 330) (pc' := 348) rfl (own_hb hby at_330) rfl (flt (fun q => hc330_1607 ((own_ltN (by omega) (by omega)).mp q))).2.2.2 (by decide) (by decide) ?_
      exact kt
  refine own_Go.of (S' := (T1594.setTop (mkF m 348 #[.val (.int p0), .val (.int p1), .val (.int p2), .val (.int p3), .val (.int p4), .val (.int p5), .val (.int (Int32.ofNat ln)), .val (.int (Int32.ofNat n)), .val (.int b0), .val (.int b1), .val (.int b2), .val (.int b3), .val (.int b4), .val (.int i13), .val (.int i14), .val (.int (Int32.ofNat en0)), .val (.int (Int32.ofNat en1)), .val (.int (Int32.ofNat en2)), .val (.int (Int32.ofNat en3)), .val (.int (Int32.ofNat en4)), .val (.ref x), .val (.ref o), .val (.int res1594), .val (.int v1610)] []))) st1611 ?_
  have bkhd1612 := own_blk hd1612
  refine own_Go.of (S' := (T1594.setTop (mkF m 351 #[.val (.int p0), .val (.int p1), .val (.int p2), .val (.int p3), .val (.int p4), .val (.int p5), .val (.int (Int32.ofNat ln)), .val (.int (Int32.ofNat n)), .val (.int b0), .val (.int b1), .val (.int b2), .val (.int b3), .val (.int b4), .val (.int i13), .val (.int i14), .val (.int (Int32.ofNat en0)), .val (.int (Int32.ofNat en1)), .val (.int (Int32.ofNat en2)), .val (.int (Int32.ofNat en3)), .val (.int (Int32.ofNat en4)), .val (.ref x), .val (.ref o), .val (.int res1594), .val (.int v1610)] [(.int (1 : Int32)), (.int (Int32.ofNat n))]))) (fun t kt => ?_) ?_
  · show Steps p.tables e below (T1594.setTop (mkF m 348 #[.val (.int p0), .val (.int p1), .val (.int p2), .val (.int p3), .val (.int p4), .val (.int p5), .val (.int (Int32.ofNat ln)), .val (.int (Int32.ofNat n)), .val (.int b0), .val (.int b1), .val (.int b2), .val (.int b3), .val (.int b4), .val (.int i13), .val (.int i14), .val (.int (Int32.ofNat en0)), .val (.int (Int32.ofNat en1)), .val (.int (Int32.ofNat en2)), .val (.int (Int32.ofNat en3)), .val (.int (Int32.ofNat en4)), .val (.ref x), .val (.ref o), .val (.int res1594), .val (.int v1610)] [])) _
    refine XS.iload X1594.here hx rfl (own_hb hby at_348) rfl ?_
    refine XS.iconst X1594.here hx rfl (own_hb hby at_350) ?_
    exact kt
  obtain ⟨v1616, hd1618, st1617⟩ : ∃ v1616 : Int32, ((v1616 = (1 : Int32) ∧ 1 < n ∧ b1 = (0 : Int32) ∧ ln < en1) ∨ (v1616 = v1610 ∧ 1 < n ∧ b1 = (0 : Int32) ∧ ¬ (ln < en1)) ∨ (v1616 = v1610 ∧ 1 < n ∧ ¬ (b1 = (0 : Int32))) ∨ (v1616 = v1610 ∧ ¬ (1 < n))) ∧ ∀ t, Steps p.tables e below (T1594.setTop (mkF m 369 #[.val (.int p0), .val (.int p1), .val (.int p2), .val (.int p3), .val (.int p4), .val (.int p5), .val (.int (Int32.ofNat ln)), .val (.int (Int32.ofNat n)), .val (.int b0), .val (.int b1), .val (.int b2), .val (.int b3), .val (.int b4), .val (.int i13), .val (.int i14), .val (.int (Int32.ofNat en0)), .val (.int (Int32.ofNat en1)), .val (.int (Int32.ofNat en2)), .val (.int (Int32.ofNat en3)), .val (.int (Int32.ofNat en4)), .val (.ref x), .val (.ref o), .val (.int res1594), .val (.int v1616)] [])) t → Steps p.tables e below (T1594.setTop (mkF m 351 #[.val (.int p0), .val (.int p1), .val (.int p2), .val (.int p3), .val (.int p4), .val (.int p5), .val (.int (Int32.ofNat ln)), .val (.int (Int32.ofNat n)), .val (.int b0), .val (.int b1), .val (.int b2), .val (.int b3), .val (.int b4), .val (.int i13), .val (.int i14), .val (.int (Int32.ofNat en0)), .val (.int (Int32.ofNat en1)), .val (.int (Int32.ofNat en2)), .val (.int (Int32.ofNat en3)), .val (.int (Int32.ofNat en4)), .val (.ref x), .val (.ref o), .val (.int res1594), .val (.int v1610)] [(.int (1 : Int32)), (.int (Int32.ofNat n))])) t := by
    by_cases hc351_1613 : 1 < n
    · skip
      by_cases hc356_1614 : b1 = (0 : Int32)
      · skip
        by_cases hc363_1615 : ln < en1
        · skip
          refine ⟨(1 : Int32), (Or.inl (⟨rfl, hc351_1613, hc356_1614, hc363_1615⟩)), fun t kt => ?_⟩
          show Steps p.tables e below (T1594.setTop (mkF m 351 #[.val (.int p0), .val (.int p1), .val (.int p2), .val (.int p3), .val (.int p4), .val (.int p5), .val (.int (Int32.ofNat ln)), .val (.int (Int32.ofNat n)), .val (.int b0), .val (.int b1), .val (.int b2), .val (.int b3), .val (.int b4), .val (.int i13), .val (.int i14), .val (.int (Int32.ofNat en0)), .val (.int (Int32.ofNat en1)), .val (.int (Int32.ofNat en2)), .val (.int (Int32.ofNat en3)), .val (.int (Int32.ofNat en4)), .val (.ref x), .val (.ref o), .val (.int res1594), .val (.int v1610)] [(.int (1 : Int32)), (.int (Int32.ofNat n))])) _
          refine XS.icmpNo X1594.here hx rfl (own_hb hby at_351) rfl (tlt ((own_ltN (by omega) (by omega)).mpr hc351_1613)).2.2.2 ?_
          refine XS.iload X1594.here hx rfl (own_hb hby at_354) rfl ?_
          refine XS.ifNo X1594.here hx rfl (own_hb hby at_356) rfl ((if0 _ _).trans (teq hc356_1614).2) ?_
          refine XS.iload X1594.here hx rfl (own_hb hby at_359) rfl ?_
          show Steps p.tables e below (T1594.setTop (mkF m 361 #[.val (.int p0), .val (.int p1), .val (.int p2), .val (.int p3), .val (.int p4), .val (.int p5), .val (.int (Int32.ofNat ln)), .val (.int (Int32.ofNat n)), .val (.int b0), .val (.int b1), .val (.int b2), .val (.int b3), .val (.int b4), .val (.int i13), .val (.int i14), .val (.int (Int32.ofNat en0)), .val (.int (Int32.ofNat en1)), .val (.int (Int32.ofNat en2)), .val (.int (Int32.ofNat en3)), .val (.int (Int32.ofNat en4)), .val (.ref x), .val (.ref o), .val (.int res1594), .val (.int v1610)] [(.int (Int32.ofNat en1))])) _
          refine XS.iload X1594.here hx rfl (own_hb hby at_361) rfl ?_
          refine XS.icmpNo X1594.here hx rfl (own_hb hby at_363) rfl (tlt ((own_ltN (by omega) (by omega)).mpr hc363_1615)).2.2.2 ?_
          refine XS.iconst X1594.here hx rfl (own_hb hby at_366) ?_
          refine XS.istore X1594.here hx rfl (own_hb hby at_367) rfl (l' := #[.val (.int p0), .val (.int p1), .val (.int p2), .val (.int p3), .val (.int p4), .val (.int p5), .val (.int (Int32.ofNat ln)), .val (.int (Int32.ofNat n)), .val (.int b0), .val (.int b1), .val (.int b2), .val (.int b3), .val (.int b4), .val (.int i13), .val (.int i14), .val (.int (Int32.ofNat en0)), .val (.int (Int32.ofNat en1)), .val (.int (Int32.ofNat en2)), .val (.int (Int32.ofNat en3)), .val (.int (Int32.ofNat en4)), .val (.ref x), .val (.ref o), .val (.int res1594), .val (.int (1 : Int32))]) rfl ?_
          exact kt
        · skip
          refine ⟨v1610, (Or.inr (Or.inl (⟨rfl, hc351_1613, hc356_1614, hc363_1615⟩))), fun t kt => ?_⟩
          show Steps p.tables e below (T1594.setTop (mkF m 351 #[.val (.int p0), .val (.int p1), .val (.int p2), .val (.int p3), .val (.int p4), .val (.int p5), .val (.int (Int32.ofNat ln)), .val (.int (Int32.ofNat n)), .val (.int b0), .val (.int b1), .val (.int b2), .val (.int b3), .val (.int b4), .val (.int i13), .val (.int i14), .val (.int (Int32.ofNat en0)), .val (.int (Int32.ofNat en1)), .val (.int (Int32.ofNat en2)), .val (.int (Int32.ofNat en3)), .val (.int (Int32.ofNat en4)), .val (.ref x), .val (.ref o), .val (.int res1594), .val (.int v1610)] [(.int (1 : Int32)), (.int (Int32.ofNat n))])) _
          refine XS.icmpNo X1594.here hx rfl (own_hb hby at_351) rfl (tlt ((own_ltN (by omega) (by omega)).mpr hc351_1613)).2.2.2 ?_
          refine XS.iload X1594.here hx rfl (own_hb hby at_354) rfl ?_
          refine XS.ifNo X1594.here hx rfl (own_hb hby at_356) rfl ((if0 _ _).trans (teq hc356_1614).2) ?_
          refine XS.iload X1594.here hx rfl (own_hb hby at_359) rfl ?_
          show Steps p.tables e below (T1594.setTop (mkF m 361 #[.val (.int p0), .val (.int p1), .val (.int p2), .val (.int p3), .val (.int p4), .val (.int p5), .val (.int (Int32.ofNat ln)), .val (.int (Int32.ofNat n)), .val (.int b0), .val (.int b1), .val (.int b2), .val (.int b3), .val (.int b4), .val (.int i13), .val (.int i14), .val (.int (Int32.ofNat en0)), .val (.int (Int32.ofNat en1)), .val (.int (Int32.ofNat en2)), .val (.int (Int32.ofNat en3)), .val (.int (Int32.ofNat en4)), .val (.ref x), .val (.ref o), .val (.int res1594), .val (.int v1610)] [(.int (Int32.ofNat en1))])) _
          refine XS.iload X1594.here hx rfl (own_hb hby at_361) rfl ?_
          refine XS.icmpYes X1594.here hx rfl (pc0 := 363) (pc' := 369) rfl (own_hb hby at_363) rfl (flt (fun q => hc363_1615 ((own_ltN (by omega) (by omega)).mp q))).2.2.2 (by decide) (by decide) ?_
          exact kt
      · skip
        refine ⟨v1610, (Or.inr (Or.inr (Or.inl (⟨rfl, hc351_1613, hc356_1614⟩)))), fun t kt => ?_⟩
        show Steps p.tables e below (T1594.setTop (mkF m 351 #[.val (.int p0), .val (.int p1), .val (.int p2), .val (.int p3), .val (.int p4), .val (.int p5), .val (.int (Int32.ofNat ln)), .val (.int (Int32.ofNat n)), .val (.int b0), .val (.int b1), .val (.int b2), .val (.int b3), .val (.int b4), .val (.int i13), .val (.int i14), .val (.int (Int32.ofNat en0)), .val (.int (Int32.ofNat en1)), .val (.int (Int32.ofNat en2)), .val (.int (Int32.ofNat en3)), .val (.int (Int32.ofNat en4)), .val (.ref x), .val (.ref o), .val (.int res1594), .val (.int v1610)] [(.int (1 : Int32)), (.int (Int32.ofNat n))])) _
        refine XS.icmpNo X1594.here hx rfl (own_hb hby at_351) rfl (tlt ((own_ltN (by omega) (by omega)).mpr hc351_1613)).2.2.2 ?_
        refine XS.iload X1594.here hx rfl (own_hb hby at_354) rfl ?_
        refine XS.ifYes X1594.here hx rfl (pc0 := 356) (pc' := 369) rfl (own_hb hby at_356) rfl ((if0 _ _).trans (feq hc356_1614).2) (by decide) (by decide) ?_
        exact kt
    · skip
      refine ⟨v1610, (Or.inr (Or.inr (Or.inr (⟨rfl, hc351_1613⟩)))), fun t kt => ?_⟩
      show Steps p.tables e below (T1594.setTop (mkF m 351 #[.val (.int p0), .val (.int p1), .val (.int p2), .val (.int p3), .val (.int p4), .val (.int p5), .val (.int (Int32.ofNat ln)), .val (.int (Int32.ofNat n)), .val (.int b0), .val (.int b1), .val (.int b2), .val (.int b3), .val (.int b4), .val (.int i13), .val (.int i14), .val (.int (Int32.ofNat en0)), .val (.int (Int32.ofNat en1)), .val (.int (Int32.ofNat en2)), .val (.int (Int32.ofNat en3)), .val (.int (Int32.ofNat en4)), .val (.ref x), .val (.ref o), .val (.int res1594), .val (.int v1610)] [(.int (1 : Int32)), (.int (Int32.ofNat n))])) _
      refine XS.icmpYes X1594.here hx rfl (pc0 := 351) (pc' := 369) rfl (own_hb hby at_351) rfl (flt (fun q => hc351_1613 ((own_ltN (by omega) (by omega)).mp q))).2.2.2 (by decide) (by decide) ?_
      exact kt
  refine own_Go.of (S' := (T1594.setTop (mkF m 369 #[.val (.int p0), .val (.int p1), .val (.int p2), .val (.int p3), .val (.int p4), .val (.int p5), .val (.int (Int32.ofNat ln)), .val (.int (Int32.ofNat n)), .val (.int b0), .val (.int b1), .val (.int b2), .val (.int b3), .val (.int b4), .val (.int i13), .val (.int i14), .val (.int (Int32.ofNat en0)), .val (.int (Int32.ofNat en1)), .val (.int (Int32.ofNat en2)), .val (.int (Int32.ofNat en3)), .val (.int (Int32.ofNat en4)), .val (.ref x), .val (.ref o), .val (.int res1594), .val (.int v1616)] []))) st1617 ?_
  have bkhd1618 := own_blk hd1618
  refine own_Go.of (S' := (T1594.setTop (mkF m 371 #[.val (.int p0), .val (.int p1), .val (.int p2), .val (.int p3), .val (.int p4), .val (.int p5), .val (.int (Int32.ofNat ln)), .val (.int (Int32.ofNat n)), .val (.int b0), .val (.int b1), .val (.int b2), .val (.int b3), .val (.int b4), .val (.int i13), .val (.int i14), .val (.int (Int32.ofNat en0)), .val (.int (Int32.ofNat en1)), .val (.int (Int32.ofNat en2)), .val (.int (Int32.ofNat en3)), .val (.int (Int32.ofNat en4)), .val (.ref x), .val (.ref o), .val (.int res1594), .val (.int v1616)] [(.int (Int32.ofNat n))]))) (fun t kt => ?_) ?_
  · show Steps p.tables e below (T1594.setTop (mkF m 369 #[.val (.int p0), .val (.int p1), .val (.int p2), .val (.int p3), .val (.int p4), .val (.int p5), .val (.int (Int32.ofNat ln)), .val (.int (Int32.ofNat n)), .val (.int b0), .val (.int b1), .val (.int b2), .val (.int b3), .val (.int b4), .val (.int i13), .val (.int i14), .val (.int (Int32.ofNat en0)), .val (.int (Int32.ofNat en1)), .val (.int (Int32.ofNat en2)), .val (.int (Int32.ofNat en3)), .val (.int (Int32.ofNat en4)), .val (.ref x), .val (.ref o), .val (.int res1594), .val (.int v1616)] [])) _
    refine XS.iload X1594.here hx rfl (own_hb hby at_369) rfl ?_
    exact kt
  obtain ⟨v1622, hd1624, st1623⟩ : ∃ v1622 : Int32, ((v1622 = (0 : Int32) ∧ 0 < n ∧ b0 = (0 : Int32) ∧ ln < en0) ∨ (v1622 = v1616 ∧ 0 < n ∧ b0 = (0 : Int32) ∧ ¬ (ln < en0)) ∨ (v1622 = v1616 ∧ 0 < n ∧ ¬ (b0 = (0 : Int32))) ∨ (v1622 = v1616 ∧ ¬ (0 < n))) ∧ ∀ t, Steps p.tables e below (T1594.setTop (mkF m 389 #[.val (.int p0), .val (.int p1), .val (.int p2), .val (.int p3), .val (.int p4), .val (.int p5), .val (.int (Int32.ofNat ln)), .val (.int (Int32.ofNat n)), .val (.int b0), .val (.int b1), .val (.int b2), .val (.int b3), .val (.int b4), .val (.int i13), .val (.int i14), .val (.int (Int32.ofNat en0)), .val (.int (Int32.ofNat en1)), .val (.int (Int32.ofNat en2)), .val (.int (Int32.ofNat en3)), .val (.int (Int32.ofNat en4)), .val (.ref x), .val (.ref o), .val (.int res1594), .val (.int v1622)] [])) t → Steps p.tables e below (T1594.setTop (mkF m 371 #[.val (.int p0), .val (.int p1), .val (.int p2), .val (.int p3), .val (.int p4), .val (.int p5), .val (.int (Int32.ofNat ln)), .val (.int (Int32.ofNat n)), .val (.int b0), .val (.int b1), .val (.int b2), .val (.int b3), .val (.int b4), .val (.int i13), .val (.int i14), .val (.int (Int32.ofNat en0)), .val (.int (Int32.ofNat en1)), .val (.int (Int32.ofNat en2)), .val (.int (Int32.ofNat en3)), .val (.int (Int32.ofNat en4)), .val (.ref x), .val (.ref o), .val (.int res1594), .val (.int v1616)] [(.int (Int32.ofNat n))])) t := by
    by_cases hc371_1619 : 0 < n
    · skip
      by_cases hc376_1620 : b0 = (0 : Int32)
      · skip
        by_cases hc383_1621 : ln < en0
        · skip
          refine ⟨(0 : Int32), (Or.inl (⟨rfl, hc371_1619, hc376_1620, hc383_1621⟩)), fun t kt => ?_⟩
          show Steps p.tables e below (T1594.setTop (mkF m 371 #[.val (.int p0), .val (.int p1), .val (.int p2), .val (.int p3), .val (.int p4), .val (.int p5), .val (.int (Int32.ofNat ln)), .val (.int (Int32.ofNat n)), .val (.int b0), .val (.int b1), .val (.int b2), .val (.int b3), .val (.int b4), .val (.int i13), .val (.int i14), .val (.int (Int32.ofNat en0)), .val (.int (Int32.ofNat en1)), .val (.int (Int32.ofNat en2)), .val (.int (Int32.ofNat en3)), .val (.int (Int32.ofNat en4)), .val (.ref x), .val (.ref o), .val (.int res1594), .val (.int v1616)] [(.int (Int32.ofNat n))])) _
          refine XS.ifNo X1594.here hx rfl (own_hb hby at_371) rfl ((if0 _ _).trans (tlt ((own_ltN (by omega) (by omega)).mpr hc371_1619)).2.2.2) ?_
          refine XS.iload X1594.here hx rfl (own_hb hby at_374) rfl ?_
          refine XS.ifNo X1594.here hx rfl (own_hb hby at_376) rfl ((if0 _ _).trans (teq hc376_1620).2) ?_
          refine XS.iload X1594.here hx rfl (own_hb hby at_379) rfl ?_
          show Steps p.tables e below (T1594.setTop (mkF m 381 #[.val (.int p0), .val (.int p1), .val (.int p2), .val (.int p3), .val (.int p4), .val (.int p5), .val (.int (Int32.ofNat ln)), .val (.int (Int32.ofNat n)), .val (.int b0), .val (.int b1), .val (.int b2), .val (.int b3), .val (.int b4), .val (.int i13), .val (.int i14), .val (.int (Int32.ofNat en0)), .val (.int (Int32.ofNat en1)), .val (.int (Int32.ofNat en2)), .val (.int (Int32.ofNat en3)), .val (.int (Int32.ofNat en4)), .val (.ref x), .val (.ref o), .val (.int res1594), .val (.int v1616)] [(.int (Int32.ofNat en0))])) _
          refine XS.iload X1594.here hx rfl (own_hb hby at_381) rfl ?_
          refine XS.icmpNo X1594.here hx rfl (own_hb hby at_383) rfl (tlt ((own_ltN (by omega) (by omega)).mpr hc383_1621)).2.2.2 ?_
          refine XS.iconst X1594.here hx rfl (own_hb hby at_386) ?_
          refine XS.istore X1594.here hx rfl (own_hb hby at_387) rfl (l' := #[.val (.int p0), .val (.int p1), .val (.int p2), .val (.int p3), .val (.int p4), .val (.int p5), .val (.int (Int32.ofNat ln)), .val (.int (Int32.ofNat n)), .val (.int b0), .val (.int b1), .val (.int b2), .val (.int b3), .val (.int b4), .val (.int i13), .val (.int i14), .val (.int (Int32.ofNat en0)), .val (.int (Int32.ofNat en1)), .val (.int (Int32.ofNat en2)), .val (.int (Int32.ofNat en3)), .val (.int (Int32.ofNat en4)), .val (.ref x), .val (.ref o), .val (.int res1594), .val (.int (0 : Int32))]) rfl ?_
          exact kt
        · skip
          refine ⟨v1616, (Or.inr (Or.inl (⟨rfl, hc371_1619, hc376_1620, hc383_1621⟩))), fun t kt => ?_⟩
          show Steps p.tables e below (T1594.setTop (mkF m 371 #[.val (.int p0), .val (.int p1), .val (.int p2), .val (.int p3), .val (.int p4), .val (.int p5), .val (.int (Int32.ofNat ln)), .val (.int (Int32.ofNat n)), .val (.int b0), .val (.int b1), .val (.int b2), .val (.int b3), .val (.int b4), .val (.int i13), .val (.int i14), .val (.int (Int32.ofNat en0)), .val (.int (Int32.ofNat en1)), .val (.int (Int32.ofNat en2)), .val (.int (Int32.ofNat en3)), .val (.int (Int32.ofNat en4)), .val (.ref x), .val (.ref o), .val (.int res1594), .val (.int v1616)] [(.int (Int32.ofNat n))])) _
          refine XS.ifNo X1594.here hx rfl (own_hb hby at_371) rfl ((if0 _ _).trans (tlt ((own_ltN (by omega) (by omega)).mpr hc371_1619)).2.2.2) ?_
          refine XS.iload X1594.here hx rfl (own_hb hby at_374) rfl ?_
          refine XS.ifNo X1594.here hx rfl (own_hb hby at_376) rfl ((if0 _ _).trans (teq hc376_1620).2) ?_
          refine XS.iload X1594.here hx rfl (own_hb hby at_379) rfl ?_
          show Steps p.tables e below (T1594.setTop (mkF m 381 #[.val (.int p0), .val (.int p1), .val (.int p2), .val (.int p3), .val (.int p4), .val (.int p5), .val (.int (Int32.ofNat ln)), .val (.int (Int32.ofNat n)), .val (.int b0), .val (.int b1), .val (.int b2), .val (.int b3), .val (.int b4), .val (.int i13), .val (.int i14), .val (.int (Int32.ofNat en0)), .val (.int (Int32.ofNat en1)), .val (.int (Int32.ofNat en2)), .val (.int (Int32.ofNat en3)), .val (.int (Int32.ofNat en4)), .val (.ref x), .val (.ref o), .val (.int res1594), .val (.int v1616)] [(.int (Int32.ofNat en0))])) _
          refine XS.iload X1594.here hx rfl (own_hb hby at_381) rfl ?_
          refine XS.icmpYes X1594.here hx rfl (pc0 := 383) (pc' := 389) rfl (own_hb hby at_383) rfl (flt (fun q => hc383_1621 ((own_ltN (by omega) (by omega)).mp q))).2.2.2 (by decide) (by decide) ?_
          exact kt
      · skip
        refine ⟨v1616, (Or.inr (Or.inr (Or.inl (⟨rfl, hc371_1619, hc376_1620⟩)))), fun t kt => ?_⟩
        show Steps p.tables e below (T1594.setTop (mkF m 371 #[.val (.int p0), .val (.int p1), .val (.int p2), .val (.int p3), .val (.int p4), .val (.int p5), .val (.int (Int32.ofNat ln)), .val (.int (Int32.ofNat n)), .val (.int b0), .val (.int b1), .val (.int b2), .val (.int b3), .val (.int b4), .val (.int i13), .val (.int i14), .val (.int (Int32.ofNat en0)), .val (.int (Int32.ofNat en1)), .val (.int (Int32.ofNat en2)), .val (.int (Int32.ofNat en3)), .val (.int (Int32.ofNat en4)), .val (.ref x), .val (.ref o), .val (.int res1594), .val (.int v1616)] [(.int (Int32.ofNat n))])) _
        refine XS.ifNo X1594.here hx rfl (own_hb hby at_371) rfl ((if0 _ _).trans (tlt ((own_ltN (by omega) (by omega)).mpr hc371_1619)).2.2.2) ?_
        refine XS.iload X1594.here hx rfl (own_hb hby at_374) rfl ?_
        refine XS.ifYes X1594.here hx rfl (pc0 := 376) (pc' := 389) rfl (own_hb hby at_376) rfl ((if0 _ _).trans (feq hc376_1620).2) (by decide) (by decide) ?_
        exact kt
    · skip
      refine ⟨v1616, (Or.inr (Or.inr (Or.inr (⟨rfl, hc371_1619⟩)))), fun t kt => ?_⟩
      show Steps p.tables e below (T1594.setTop (mkF m 371 #[.val (.int p0), .val (.int p1), .val (.int p2), .val (.int p3), .val (.int p4), .val (.int p5), .val (.int (Int32.ofNat ln)), .val (.int (Int32.ofNat n)), .val (.int b0), .val (.int b1), .val (.int b2), .val (.int b3), .val (.int b4), .val (.int i13), .val (.int i14), .val (.int (Int32.ofNat en0)), .val (.int (Int32.ofNat en1)), .val (.int (Int32.ofNat en2)), .val (.int (Int32.ofNat en3)), .val (.int (Int32.ofNat en4)), .val (.ref x), .val (.ref o), .val (.int res1594), .val (.int v1616)] [(.int (Int32.ofNat n))])) _
      refine XS.ifYes X1594.here hx rfl (pc0 := 371) (pc' := 389) rfl (own_hb hby at_371) rfl ((if0 _ _).trans (flt (fun q => hc371_1619 ((own_ltN (by omega) (by omega)).mp q))).2.2.2) (by decide) (by decide) ?_
      exact kt
  refine own_Go.of (S' := (T1594.setTop (mkF m 389 #[.val (.int p0), .val (.int p1), .val (.int p2), .val (.int p3), .val (.int p4), .val (.int p5), .val (.int (Int32.ofNat ln)), .val (.int (Int32.ofNat n)), .val (.int b0), .val (.int b1), .val (.int b2), .val (.int b3), .val (.int b4), .val (.int i13), .val (.int i14), .val (.int (Int32.ofNat en0)), .val (.int (Int32.ofNat en1)), .val (.int (Int32.ofNat en2)), .val (.int (Int32.ofNat en3)), .val (.int (Int32.ofNat en4)), .val (.ref x), .val (.ref o), .val (.int res1594), .val (.int v1622)] []))) st1623 ?_
  have bkhd1624 := own_blk hd1624
  refine own_Go.of (S' := (T1594.setTop (mkF m 393 #[.val (.int p0), .val (.int p1), .val (.int p2), .val (.int p3), .val (.int p4), .val (.int p5), .val (.int (Int32.ofNat ln)), .val (.int (Int32.ofNat n)), .val (.int b0), .val (.int b1), .val (.int b2), .val (.int b3), .val (.int b4), .val (.int i13), .val (.int i14), .val (.int (Int32.ofNat en0)), .val (.int (Int32.ofNat en1)), .val (.int (Int32.ofNat en2)), .val (.int (Int32.ofNat en3)), .val (.int (Int32.ofNat en4)), .val (.ref x), .val (.ref o), .val (.int res1594), .val (.int v1622)] [(.int v1622), (.int res1594)]))) (fun t kt => ?_) ?_
  · show Steps p.tables e below (T1594.setTop (mkF m 389 #[.val (.int p0), .val (.int p1), .val (.int p2), .val (.int p3), .val (.int p4), .val (.int p5), .val (.int (Int32.ofNat ln)), .val (.int (Int32.ofNat n)), .val (.int b0), .val (.int b1), .val (.int b2), .val (.int b3), .val (.int b4), .val (.int i13), .val (.int i14), .val (.int (Int32.ofNat en0)), .val (.int (Int32.ofNat en1)), .val (.int (Int32.ofNat en2)), .val (.int (Int32.ofNat en3)), .val (.int (Int32.ofNat en4)), .val (.ref x), .val (.ref o), .val (.int res1594), .val (.int v1622)] [])) _
    refine XS.iload X1594.here hx rfl (own_hb hby at_389) rfl ?_
    refine XS.iload X1594.here hx rfl (own_hb hby at_391) rfl ?_
    exact kt
  have hfin := own_bbfin hn p1594_0 bkhd1600 bkhd1606 bkhd1612 bkhd1618 bkhd1624 (own_cnd hln he0 hb0 hD0) (own_cnd hln he1 hb1 hD1) (own_cnd hln he2 hb2 hD2) (own_cnd hln he3 hb3 hD3) (own_cnd hln he4 hb4 hD4)
  refine own_Go.of (S' := (T1594.setTop (mkF m 401 #[.val (.int p0), .val (.int p1), .val (.int p2), .val (.int p3), .val (.int p4), .val (.int p5), .val (.int (Int32.ofNat ln)), .val (.int (Int32.ofNat n)), .val (.int b0), .val (.int b1), .val (.int b2), .val (.int b3), .val (.int b4), .val (.int i13), .val (.int i14), .val (.int (Int32.ofNat en0)), .val (.int (Int32.ofNat en1)), .val (.int (Int32.ofNat en2)), .val (.int (Int32.ofNat en3)), .val (.int (Int32.ofNat en4)), .val (.ref x), .val (.ref o), .val (.int res1594), .val (.int v1622)] [(.int (1 : Int32))]))) (fun t kt => ?_) ?_
  · show Steps p.tables e below (T1594.setTop (mkF m 393 #[.val (.int p0), .val (.int p1), .val (.int p2), .val (.int p3), .val (.int p4), .val (.int p5), .val (.int (Int32.ofNat ln)), .val (.int (Int32.ofNat n)), .val (.int b0), .val (.int b1), .val (.int b2), .val (.int b3), .val (.int b4), .val (.int i13), .val (.int i14), .val (.int (Int32.ofNat en0)), .val (.int (Int32.ofNat en1)), .val (.int (Int32.ofNat en2)), .val (.int (Int32.ofNat en3)), .val (.int (Int32.ofNat en4)), .val (.ref x), .val (.ref o), .val (.int res1594), .val (.int v1622)] [(.int v1622), (.int res1594)])) _
    refine XS.icmpNo X1594.here hx rfl (own_hb hby at_393) rfl (teq hfin).2 ?_
    refine XS.iconst X1594.here hx rfl (own_hb hby at_396) ?_
    refine XS.goto X1594.here hx rfl (pc0 := 397) (pc' := 401) rfl (own_hb hby at_397) (by decide) (by decide) ?_
    exact kt
  exact own_retNW (vm0 := vm0) X1594 hS1 hk1 hx hlk (t := .boolean) hret (by simp) (own_hb hby at_401) hh1594 ⟨rfl, N1594⟩ (by decide) (by decide)

theorem own_kcast {Z : State} {h : Heap} {n0 : Nat} {x o : Addr} {k k' cap : Nat} {d : Nat → Int32} {bs : Addr} (q : k = k') (F : own_Row Z h n0 x o k cap d bs) : own_Row Z h n0 x o k' cap d bs := q ▸ F
theorem pd_7 : parseMethodDescriptor "(Lcom/example/quayside/quayside/Row;IIZI)V" = some ⟨[(.object "com/example/quayside/quayside/Row"), .int, .int, .boolean, .int], none⟩ := by decide +kernel
set_option maxRecDepth 65536 in
set_option maxHeartbeats 40000000 in
theorem seg203e {p : Program} {l : Launch} {e : Env} {s : State} {vm0 : Vm} {kk : Nat} {m : MethodId} {below : List Frame} {meth : Method} {c : Code} {Z : State} {a0 : Array Value} (hw : ∀ d ∈ tables_1, d.before a0 Z = true) (hx : p.tables.exec = Jvm.exec) (hZ : Z.Warmed39 (s.setVm vm0).vm) (hS1 : s.Since vm0 kk) (hby : c.code = code) (hml : c.maxLocals = 24) (hret : meth.sig.returnType = ret) (hlk : meth.locks = false) (hown : (s.setVm vm0).vm.findClass "com/example/quayside/quayside/RowBeyondBytesPinLaw" = some m.cls) (hnm : meth.name = "law") (p0 : Int32) (p1 : Int32) (p2 : Int32) (p3 : Int32) (p4 : Int32) (p5 : Int32) (h0 : Heap) (n0 : Nat) (ln : Nat) (n : Nat) (b0 : Int32) (b1 : Int32) (b2 : Int32) (b3 : Int32) (b4 : Int32) (i14 : Int32) (en0 : Nat) (en1 : Nat) (en2 : Nat) (en3 : Nat) (en4 : Nat) (x : Addr) (o : Addr) (cap : Nat) (d : Nat → Int32) (f : Nat → Value)
    {T1 : State} {h1 : Heap} {locs : List Loc} (X1 : Stand p l e room_1 (s.setVm vm0) m #[(.int p0), (.int p1), (.int p2), (.int p3), (.int p4), (.int p5)] below meth c T1 locs 7 71) (e1 : T1.heap = h1) (N1 : Fr n0 locs) (Z1 : n0 ≤ h1.size) (row : own_Row Z h1 n0 x o 0 cap d x) (pr1 : own_Ar Z h1 x .byte ln f) (pr2 : Exa Z h1 x "[B") (hln : ln ≤ 7) (hn : n ≤ 5) (hb0 : b0 = 0 ∨ b0 = 1) (hb1 : b1 = 0 ∨ b1 = 1) (hb2 : b2 = 0 ∨ b2 = 1) (hb3 : b3 = 0 ∨ b3 = 1) (hb4 : b4 = 0 ∨ b4 = 1) (he0 : en0 ≤ 2147483647) (he1 : en1 ≤ 2147483647) (he2 : en2 ≤ 2147483647) (he3 : en3 ≤ 2147483647) (he4 : en4 ≤ 2147483647) (hD0 : 0 < n → d 0 = if b0 = 0 then Int32.ofNat en0 else 0) (hD1 : 1 < n → d 1 = if b1 = 0 then Int32.ofNat en1 else 0) (hD2 : 2 < n → d 2 = if b2 = 0 then Int32.ofNat en2 else 0) (hD3 : 3 < n → d 3 = if b3 = 0 then Int32.ofNat en3 else 0) (hD4 : 4 < n → d 4 = if b4 = 0 then Int32.ofNat en4 else 0) (hk1 : kk ≤ h1.size) :
    own_Go p e below (T1.setTop (mkF m 203 #[.val (.int p0), .val (.int p1), .val (.int p2), .val (.int p3), .val (.int p4), .val (.int p5), .val (.int (Int32.ofNat ln)), .val (.int (Int32.ofNat n)), .val (.int b0), .val (.int b1), .val (.int b2), .val (.int b3), .val (.int b4), .val (.int (0 : Int32)), .val (.int i14), .val (.int (Int32.ofNat en0)), .val (.int (Int32.ofNat en1)), .val (.int (Int32.ofNat en2)), .val (.int (Int32.ofNat en3)), .val (.int (Int32.ofNat en4)), .val (.ref x), .val (.ref o), .unset, .unset] [])) (own_EndW s (Q_rm0 Z p0 p1 p2 p3 p4 p5 h0 n0) room_1.cells room_1.slots) := by
  have hwS : ∀ a ∈ Bundle.stringAtoms, a.before a0 Z = true := fun d hd => hw d ((by decide +kernel : ∀ d ∈ Bundle.stringAtoms, d ∈ tables_1) d hd)
  have hLx : own_Lt h1 x := pr1.lt
  refine own_Go.of (S' := (T1.setTop (mkF m 212 #[.val (.int p0), .val (.int p1), .val (.int p2), .val (.int p3), .val (.int p4), .val (.int p5), .val (.int (Int32.ofNat ln)), .val (.int (Int32.ofNat n)), .val (.int b0), .val (.int b1), .val (.int b2), .val (.int b3), .val (.int b4), .val (.int (0 : Int32)), .val (.int i14), .val (.int (Int32.ofNat en0)), .val (.int (Int32.ofNat en1)), .val (.int (Int32.ofNat en2)), .val (.int (Int32.ofNat en3)), .val (.int (Int32.ofNat en4)), .val (.ref x), .val (.ref o), .unset, .unset] [(.int (Int32.ofNat en0)), (.int b0), (.int (0 : Int32)), (.int (Int32.ofNat n)), (.ref o)]))) (fun t kt => ?_) ?_
  · show Steps p.tables e below (T1.setTop (mkF m 203 #[.val (.int p0), .val (.int p1), .val (.int p2), .val (.int p3), .val (.int p4), .val (.int p5), .val (.int (Int32.ofNat ln)), .val (.int (Int32.ofNat n)), .val (.int b0), .val (.int b1), .val (.int b2), .val (.int b3), .val (.int b4), .val (.int (0 : Int32)), .val (.int i14), .val (.int (Int32.ofNat en0)), .val (.int (Int32.ofNat en1)), .val (.int (Int32.ofNat en2)), .val (.int (Int32.ofNat en3)), .val (.int (Int32.ofNat en4)), .val (.ref x), .val (.ref o), .unset, .unset] [])) _
    refine XS.aload X1.here hx rfl (own_hb hby at_203) rfl rfl ?_
    refine XS.iload X1.here hx rfl (own_hb hby at_205) rfl ?_
    refine XS.iconst X1.here hx rfl (own_hb hby at_207) ?_
    refine XS.iload X1.here hx rfl (own_hb hby at_208) rfl ?_
    show Steps p.tables e below (T1.setTop (mkF m 210 #[.val (.int p0), .val (.int p1), .val (.int p2), .val (.int p3), .val (.int p4), .val (.int p5), .val (.int (Int32.ofNat ln)), .val (.int (Int32.ofNat n)), .val (.int b0), .val (.int b1), .val (.int b2), .val (.int b3), .val (.int b4), .val (.int (0 : Int32)), .val (.int i14), .val (.int (Int32.ofNat en0)), .val (.int (Int32.ofNat en1)), .val (.int (Int32.ofNat en2)), .val (.int (Int32.ofNat en3)), .val (.int (Int32.ofNat en4)), .val (.ref x), .val (.ref o), .unset, .unset] [(.int b0), (.int (0 : Int32)), (.int (Int32.ofNat n)), (.ref o)])) _
    refine XS.iload X1.here hx rfl (own_hb hby at_210) rfl ?_
    exact kt
  obtain ⟨_, _, ⟨T1625, L1625, k1625, n1625⟩, -, X1625, ⟨Lc1625, hQ1625, l1625, y1625, z1625⟩, st1625⟩ := Jvm.LawKit.callS X1 hx (y := (⟨"com/example/quayside/quayside/RowBeyondBytesPinLaw", "put", "(Lcom/example/quayside/quayside/Row;IIZI)V"⟩ : MethodName)) hown (mvT hZ (hw _ (List.mem_of_getElem? (i := 41) rfl))) (mvT hZ (hw _ (List.mem_of_getElem? (i := 42) rfl))) (mvT hZ (hw _ (List.mem_of_getElem? (i := 2) rfl))) (mvT hZ (hw _ (List.mem_of_getElem? (i := 43) rfl))) (by decide) (backOf (W := 0) (rm6 l Z a0 hw [] o n 0 b0 en0 x 0 cap d x h1 n0 Z1 row hLx hb0 (by omega) hn (by decide) he0 hD0) hZ (hw _ (List.mem_of_getElem? (i := 43) rfl)) (hw _ (List.mem_of_getElem? (i := 2) rfl)) (by decide) (by decide)) (g := (mkF m 212 #[.val (.int p0), .val (.int p1), .val (.int p2), .val (.int p3), .val (.int p4), .val (.int p5), .val (.int (Int32.ofNat ln)), .val (.int (Int32.ofNat n)), .val (.int b0), .val (.int b1), .val (.int b2), .val (.int b3), .val (.int b4), .val (.int (0 : Int32)), .val (.int i14), .val (.int (Int32.ofNat en0)), .val (.int (Int32.ofNat en1)), .val (.int (Int32.ofNat en2)), .val (.int (Int32.ofNat en3)), .val (.int (Int32.ofNat en4)), .val (.ref x), .val (.ref o), .unset, .unset] [(.int (Int32.ofNat en0)), (.int b0), (.int (0 : Int32)), (.int (Int32.ofNat n)), (.ref o)])) rfl (by rw [hml]; rfl) (argsL := [(.ref o), (.int (Int32.ofNat n)), (.int (0 : Int32)), (.int b0), (.int (Int32.ofNat en0))]) (rest := []) (lenOf pd_7 rfl) rfl (by show 2 * 0 + _ ≤ _; exact Nat.le_of_eq rfl) (own_hb hby at_212) (fun _ _ => ⟨rfl, e1, (by decide : 7 + 4 ≤ _), (by decide : 71 + 24 ≤ _)⟩)
  dsimp only [Pt.U, Pt.locs, Pt.cells, Pt.slots] at X1625 l1625 y1625 z1625 st1625 hQ1625
  subst l1625 y1625 z1625
  obtain ⟨cap'1625, rfl, N1625q, K1625, p1625_0⟩ := hQ1625
  have N1625 := Fr.app N1 N1625q
  refine own_Go.of (S' := (T1625.setTop (mkF m 215 #[.val (.int p0), .val (.int p1), .val (.int p2), .val (.int p3), .val (.int p4), .val (.int p5), .val (.int (Int32.ofNat ln)), .val (.int (Int32.ofNat n)), .val (.int b0), .val (.int b1), .val (.int b2), .val (.int b3), .val (.int b4), .val (.int (0 : Int32)), .val (.int i14), .val (.int (Int32.ofNat en0)), .val (.int (Int32.ofNat en1)), .val (.int (Int32.ofNat en2)), .val (.int (Int32.ofNat en3)), .val (.int (Int32.ofNat en4)), .val (.ref x), .val (.ref o), .unset, .unset] []))) (fun t kt => st1625 t kt) ?_
  have hk1626 := Nat.le_trans hk1 K1625.1
  have f1627 := pr1.kx K1625
  have f1628 := own_Ek pr2 K1625
  have f1629 := hLx.kx K1625
  have z1630 := Nat.le_trans Z1 K1625.1
  refine own_Go.of (S' := (T1625.setTop (mkF m 224 #[.val (.int p0), .val (.int p1), .val (.int p2), .val (.int p3), .val (.int p4), .val (.int p5), .val (.int (Int32.ofNat ln)), .val (.int (Int32.ofNat n)), .val (.int b0), .val (.int b1), .val (.int b2), .val (.int b3), .val (.int b4), .val (.int (0 : Int32)), .val (.int i14), .val (.int (Int32.ofNat en0)), .val (.int (Int32.ofNat en1)), .val (.int (Int32.ofNat en2)), .val (.int (Int32.ofNat en3)), .val (.int (Int32.ofNat en4)), .val (.ref x), .val (.ref o), .unset, .unset] [(.int (Int32.ofNat en1)), (.int b1), (.int (1 : Int32)), (.int (Int32.ofNat n)), (.ref o)]))) (fun t kt => ?_) ?_
  · show Steps p.tables e below (T1625.setTop (mkF m 215 #[.val (.int p0), .val (.int p1), .val (.int p2), .val (.int p3), .val (.int p4), .val (.int p5), .val (.int (Int32.ofNat ln)), .val (.int (Int32.ofNat n)), .val (.int b0), .val (.int b1), .val (.int b2), .val (.int b3), .val (.int b4), .val (.int (0 : Int32)), .val (.int i14), .val (.int (Int32.ofNat en0)), .val (.int (Int32.ofNat en1)), .val (.int (Int32.ofNat en2)), .val (.int (Int32.ofNat en3)), .val (.int (Int32.ofNat en4)), .val (.ref x), .val (.ref o), .unset, .unset] [])) _
    refine XS.aload X1625.here hx rfl (own_hb hby at_215) rfl rfl ?_
    refine XS.iload X1625.here hx rfl (own_hb hby at_217) rfl ?_
    refine XS.iconst X1625.here hx rfl (own_hb hby at_219) ?_
    refine XS.iload X1625.here hx rfl (own_hb hby at_220) rfl ?_
    show Steps p.tables e below (T1625.setTop (mkF m 222 #[.val (.int p0), .val (.int p1), .val (.int p2), .val (.int p3), .val (.int p4), .val (.int p5), .val (.int (Int32.ofNat ln)), .val (.int (Int32.ofNat n)), .val (.int b0), .val (.int b1), .val (.int b2), .val (.int b3), .val (.int b4), .val (.int (0 : Int32)), .val (.int i14), .val (.int (Int32.ofNat en0)), .val (.int (Int32.ofNat en1)), .val (.int (Int32.ofNat en2)), .val (.int (Int32.ofNat en3)), .val (.int (Int32.ofNat en4)), .val (.ref x), .val (.ref o), .unset, .unset] [(.int b1), (.int (1 : Int32)), (.int (Int32.ofNat n)), (.ref o)])) _
    refine XS.iload X1625.here hx rfl (own_hb hby at_222) rfl ?_
    exact kt
  obtain ⟨_, _, ⟨T1631, L1631, k1631, n1631⟩, -, X1631, ⟨Lc1631, hQ1631, l1631, y1631, z1631⟩, st1631⟩ := Jvm.LawKit.callS X1625 hx (y := (⟨"com/example/quayside/quayside/RowBeyondBytesPinLaw", "put", "(Lcom/example/quayside/quayside/Row;IIZI)V"⟩ : MethodName)) hown (mvT hZ (hw _ (List.mem_of_getElem? (i := 41) rfl))) (mvT hZ (hw _ (List.mem_of_getElem? (i := 42) rfl))) (mvT hZ (hw _ (List.mem_of_getElem? (i := 2) rfl))) (mvT hZ (hw _ (List.mem_of_getElem? (i := 43) rfl))) (by decide) (backOf (W := 0) (rm6 l Z a0 hw [] o n 1 b1 en1 x (min (0 + 1) n) cap'1625 d x T1625.heap n0 z1630 p1625_0 f1629 hb1 (by omega) hn (by decide) he1 hD1) hZ (hw _ (List.mem_of_getElem? (i := 43) rfl)) (hw _ (List.mem_of_getElem? (i := 2) rfl)) (by decide) (by decide)) (g := (mkF m 224 #[.val (.int p0), .val (.int p1), .val (.int p2), .val (.int p3), .val (.int p4), .val (.int p5), .val (.int (Int32.ofNat ln)), .val (.int (Int32.ofNat n)), .val (.int b0), .val (.int b1), .val (.int b2), .val (.int b3), .val (.int b4), .val (.int (0 : Int32)), .val (.int i14), .val (.int (Int32.ofNat en0)), .val (.int (Int32.ofNat en1)), .val (.int (Int32.ofNat en2)), .val (.int (Int32.ofNat en3)), .val (.int (Int32.ofNat en4)), .val (.ref x), .val (.ref o), .unset, .unset] [(.int (Int32.ofNat en1)), (.int b1), (.int (1 : Int32)), (.int (Int32.ofNat n)), (.ref o)])) rfl (by rw [hml]; rfl) (argsL := [(.ref o), (.int (Int32.ofNat n)), (.int (1 : Int32)), (.int b1), (.int (Int32.ofNat en1))]) (rest := []) (lenOf pd_7 rfl) rfl (by show 2 * 0 + _ ≤ _; exact Nat.le_of_eq rfl) (own_hb hby at_224) (fun _ _ => ⟨rfl, rfl, (by decide : 11 + 4 ≤ _), (by decide : 95 + 24 ≤ _)⟩)
  dsimp only [Pt.U, Pt.locs, Pt.cells, Pt.slots] at X1631 l1631 y1631 z1631 st1631 hQ1631
  subst l1631 y1631 z1631
  obtain ⟨cap'1631, rfl, N1631q, K1631, p1631_0⟩ := hQ1631
  have N1631 := Fr.app N1625 N1631q
  refine own_Go.of (S' := (T1631.setTop (mkF m 227 #[.val (.int p0), .val (.int p1), .val (.int p2), .val (.int p3), .val (.int p4), .val (.int p5), .val (.int (Int32.ofNat ln)), .val (.int (Int32.ofNat n)), .val (.int b0), .val (.int b1), .val (.int b2), .val (.int b3), .val (.int b4), .val (.int (0 : Int32)), .val (.int i14), .val (.int (Int32.ofNat en0)), .val (.int (Int32.ofNat en1)), .val (.int (Int32.ofNat en2)), .val (.int (Int32.ofNat en3)), .val (.int (Int32.ofNat en4)), .val (.ref x), .val (.ref o), .unset, .unset] []))) (fun t kt => st1631 t kt) ?_
  have hk1632 := Nat.le_trans hk1626 K1631.1
  have f1633 := f1627.kx K1631
  have f1634 := own_Ek f1628 K1631
  have f1635 := f1629.kx K1631
  have z1636 := Nat.le_trans z1630 K1631.1
  refine own_Go.of (S' := (T1631.setTop (mkF m 236 #[.val (.int p0), .val (.int p1), .val (.int p2), .val (.int p3), .val (.int p4), .val (.int p5), .val (.int (Int32.ofNat ln)), .val (.int (Int32.ofNat n)), .val (.int b0), .val (.int b1), .val (.int b2), .val (.int b3), .val (.int b4), .val (.int (0 : Int32)), .val (.int i14), .val (.int (Int32.ofNat en0)), .val (.int (Int32.ofNat en1)), .val (.int (Int32.ofNat en2)), .val (.int (Int32.ofNat en3)), .val (.int (Int32.ofNat en4)), .val (.ref x), .val (.ref o), .unset, .unset] [(.int (Int32.ofNat en2)), (.int b2), (.int (2 : Int32)), (.int (Int32.ofNat n)), (.ref o)]))) (fun t kt => ?_) ?_
  · show Steps p.tables e below (T1631.setTop (mkF m 227 #[.val (.int p0), .val (.int p1), .val (.int p2), .val (.int p3), .val (.int p4), .val (.int p5), .val (.int (Int32.ofNat ln)), .val (.int (Int32.ofNat n)), .val (.int b0), .val (.int b1), .val (.int b2), .val (.int b3), .val (.int b4), .val (.int (0 : Int32)), .val (.int i14), .val (.int (Int32.ofNat en0)), .val (.int (Int32.ofNat en1)), .val (.int (Int32.ofNat en2)), .val (.int (Int32.ofNat en3)), .val (.int (Int32.ofNat en4)), .val (.ref x), .val (.ref o), .unset, .unset] [])) _
    refine XS.aload X1631.here hx rfl (own_hb hby at_227) rfl rfl ?_
    refine XS.iload X1631.here hx rfl (own_hb hby at_229) rfl ?_
    refine XS.iconst X1631.here hx rfl (own_hb hby at_231) ?_
    refine XS.iload X1631.here hx rfl (own_hb hby at_232) rfl ?_
    show Steps p.tables e below (T1631.setTop (mkF m 234 #[.val (.int p0), .val (.int p1), .val (.int p2), .val (.int p3), .val (.int p4), .val (.int p5), .val (.int (Int32.ofNat ln)), .val (.int (Int32.ofNat n)), .val (.int b0), .val (.int b1), .val (.int b2), .val (.int b3), .val (.int b4), .val (.int (0 : Int32)), .val (.int i14), .val (.int (Int32.ofNat en0)), .val (.int (Int32.ofNat en1)), .val (.int (Int32.ofNat en2)), .val (.int (Int32.ofNat en3)), .val (.int (Int32.ofNat en4)), .val (.ref x), .val (.ref o), .unset, .unset] [(.int b2), (.int (2 : Int32)), (.int (Int32.ofNat n)), (.ref o)])) _
    refine XS.iload X1631.here hx rfl (own_hb hby at_234) rfl ?_
    exact kt
  obtain ⟨_, _, ⟨T1637, L1637, k1637, n1637⟩, -, X1637, ⟨Lc1637, hQ1637, l1637, y1637, z1637⟩, st1637⟩ := Jvm.LawKit.callS X1631 hx (y := (⟨"com/example/quayside/quayside/RowBeyondBytesPinLaw", "put", "(Lcom/example/quayside/quayside/Row;IIZI)V"⟩ : MethodName)) hown (mvT hZ (hw _ (List.mem_of_getElem? (i := 41) rfl))) (mvT hZ (hw _ (List.mem_of_getElem? (i := 42) rfl))) (mvT hZ (hw _ (List.mem_of_getElem? (i := 2) rfl))) (mvT hZ (hw _ (List.mem_of_getElem? (i := 43) rfl))) (by decide) (backOf (W := 0) (rm6 l Z a0 hw [] o n 2 b2 en2 x (min (1 + 1) n) cap'1631 d x T1631.heap n0 z1636 p1631_0 f1635 hb2 (by omega) hn (by decide) he2 hD2) hZ (hw _ (List.mem_of_getElem? (i := 43) rfl)) (hw _ (List.mem_of_getElem? (i := 2) rfl)) (by decide) (by decide)) (g := (mkF m 236 #[.val (.int p0), .val (.int p1), .val (.int p2), .val (.int p3), .val (.int p4), .val (.int p5), .val (.int (Int32.ofNat ln)), .val (.int (Int32.ofNat n)), .val (.int b0), .val (.int b1), .val (.int b2), .val (.int b3), .val (.int b4), .val (.int (0 : Int32)), .val (.int i14), .val (.int (Int32.ofNat en0)), .val (.int (Int32.ofNat en1)), .val (.int (Int32.ofNat en2)), .val (.int (Int32.ofNat en3)), .val (.int (Int32.ofNat en4)), .val (.ref x), .val (.ref o), .unset, .unset] [(.int (Int32.ofNat en2)), (.int b2), (.int (2 : Int32)), (.int (Int32.ofNat n)), (.ref o)])) rfl (by rw [hml]; rfl) (argsL := [(.ref o), (.int (Int32.ofNat n)), (.int (2 : Int32)), (.int b2), (.int (Int32.ofNat en2))]) (rest := []) (lenOf pd_7 rfl) rfl (by show 2 * 0 + _ ≤ _; exact Nat.le_of_eq rfl) (own_hb hby at_236) (fun _ _ => ⟨rfl, rfl, (by decide : 15 + 4 ≤ _), (by decide : 119 + 24 ≤ _)⟩)
  dsimp only [Pt.U, Pt.locs, Pt.cells, Pt.slots] at X1637 l1637 y1637 z1637 st1637 hQ1637
  subst l1637 y1637 z1637
  obtain ⟨cap'1637, rfl, N1637q, K1637, p1637_0⟩ := hQ1637
  have N1637 := Fr.app N1631 N1637q
  refine own_Go.of (S' := (T1637.setTop (mkF m 239 #[.val (.int p0), .val (.int p1), .val (.int p2), .val (.int p3), .val (.int p4), .val (.int p5), .val (.int (Int32.ofNat ln)), .val (.int (Int32.ofNat n)), .val (.int b0), .val (.int b1), .val (.int b2), .val (.int b3), .val (.int b4), .val (.int (0 : Int32)), .val (.int i14), .val (.int (Int32.ofNat en0)), .val (.int (Int32.ofNat en1)), .val (.int (Int32.ofNat en2)), .val (.int (Int32.ofNat en3)), .val (.int (Int32.ofNat en4)), .val (.ref x), .val (.ref o), .unset, .unset] []))) (fun t kt => st1637 t kt) ?_
  have hk1638 := Nat.le_trans hk1632 K1637.1
  have f1639 := f1633.kx K1637
  have f1640 := own_Ek f1634 K1637
  have f1641 := f1635.kx K1637
  have z1642 := Nat.le_trans z1636 K1637.1
  refine own_Go.of (S' := (T1637.setTop (mkF m 248 #[.val (.int p0), .val (.int p1), .val (.int p2), .val (.int p3), .val (.int p4), .val (.int p5), .val (.int (Int32.ofNat ln)), .val (.int (Int32.ofNat n)), .val (.int b0), .val (.int b1), .val (.int b2), .val (.int b3), .val (.int b4), .val (.int (0 : Int32)), .val (.int i14), .val (.int (Int32.ofNat en0)), .val (.int (Int32.ofNat en1)), .val (.int (Int32.ofNat en2)), .val (.int (Int32.ofNat en3)), .val (.int (Int32.ofNat en4)), .val (.ref x), .val (.ref o), .unset, .unset] [(.int (Int32.ofNat en3)), (.int b3), (.int (3 : Int32)), (.int (Int32.ofNat n)), (.ref o)]))) (fun t kt => ?_) ?_
  · show Steps p.tables e below (T1637.setTop (mkF m 239 #[.val (.int p0), .val (.int p1), .val (.int p2), .val (.int p3), .val (.int p4), .val (.int p5), .val (.int (Int32.ofNat ln)), .val (.int (Int32.ofNat n)), .val (.int b0), .val (.int b1), .val (.int b2), .val (.int b3), .val (.int b4), .val (.int (0 : Int32)), .val (.int i14), .val (.int (Int32.ofNat en0)), .val (.int (Int32.ofNat en1)), .val (.int (Int32.ofNat en2)), .val (.int (Int32.ofNat en3)), .val (.int (Int32.ofNat en4)), .val (.ref x), .val (.ref o), .unset, .unset] [])) _
    refine XS.aload X1637.here hx rfl (own_hb hby at_239) rfl rfl ?_
    refine XS.iload X1637.here hx rfl (own_hb hby at_241) rfl ?_
    refine XS.iconst X1637.here hx rfl (own_hb hby at_243) ?_
    refine XS.iload X1637.here hx rfl (own_hb hby at_244) rfl ?_
    show Steps p.tables e below (T1637.setTop (mkF m 246 #[.val (.int p0), .val (.int p1), .val (.int p2), .val (.int p3), .val (.int p4), .val (.int p5), .val (.int (Int32.ofNat ln)), .val (.int (Int32.ofNat n)), .val (.int b0), .val (.int b1), .val (.int b2), .val (.int b3), .val (.int b4), .val (.int (0 : Int32)), .val (.int i14), .val (.int (Int32.ofNat en0)), .val (.int (Int32.ofNat en1)), .val (.int (Int32.ofNat en2)), .val (.int (Int32.ofNat en3)), .val (.int (Int32.ofNat en4)), .val (.ref x), .val (.ref o), .unset, .unset] [(.int b3), (.int (3 : Int32)), (.int (Int32.ofNat n)), (.ref o)])) _
    refine XS.iload X1637.here hx rfl (own_hb hby at_246) rfl ?_
    exact kt
  obtain ⟨_, _, ⟨T1643, L1643, k1643, n1643⟩, -, X1643, ⟨Lc1643, hQ1643, l1643, y1643, z1643⟩, st1643⟩ := Jvm.LawKit.callS X1637 hx (y := (⟨"com/example/quayside/quayside/RowBeyondBytesPinLaw", "put", "(Lcom/example/quayside/quayside/Row;IIZI)V"⟩ : MethodName)) hown (mvT hZ (hw _ (List.mem_of_getElem? (i := 41) rfl))) (mvT hZ (hw _ (List.mem_of_getElem? (i := 42) rfl))) (mvT hZ (hw _ (List.mem_of_getElem? (i := 2) rfl))) (mvT hZ (hw _ (List.mem_of_getElem? (i := 43) rfl))) (by decide) (backOf (W := 0) (rm6 l Z a0 hw [] o n 3 b3 en3 x (min (2 + 1) n) cap'1637 d x T1637.heap n0 z1642 p1637_0 f1641 hb3 (by omega) hn (by decide) he3 hD3) hZ (hw _ (List.mem_of_getElem? (i := 43) rfl)) (hw _ (List.mem_of_getElem? (i := 2) rfl)) (by decide) (by decide)) (g := (mkF m 248 #[.val (.int p0), .val (.int p1), .val (.int p2), .val (.int p3), .val (.int p4), .val (.int p5), .val (.int (Int32.ofNat ln)), .val (.int (Int32.ofNat n)), .val (.int b0), .val (.int b1), .val (.int b2), .val (.int b3), .val (.int b4), .val (.int (0 : Int32)), .val (.int i14), .val (.int (Int32.ofNat en0)), .val (.int (Int32.ofNat en1)), .val (.int (Int32.ofNat en2)), .val (.int (Int32.ofNat en3)), .val (.int (Int32.ofNat en4)), .val (.ref x), .val (.ref o), .unset, .unset] [(.int (Int32.ofNat en3)), (.int b3), (.int (3 : Int32)), (.int (Int32.ofNat n)), (.ref o)])) rfl (by rw [hml]; rfl) (argsL := [(.ref o), (.int (Int32.ofNat n)), (.int (3 : Int32)), (.int b3), (.int (Int32.ofNat en3))]) (rest := []) (lenOf pd_7 rfl) rfl (by show 2 * 0 + _ ≤ _; exact Nat.le_of_eq rfl) (own_hb hby at_248) (fun _ _ => ⟨rfl, rfl, (by decide : 19 + 4 ≤ _), (by decide : 143 + 24 ≤ _)⟩)
  dsimp only [Pt.U, Pt.locs, Pt.cells, Pt.slots] at X1643 l1643 y1643 z1643 st1643 hQ1643
  subst l1643 y1643 z1643
  obtain ⟨cap'1643, rfl, N1643q, K1643, p1643_0⟩ := hQ1643
  have N1643 := Fr.app N1637 N1643q
  refine own_Go.of (S' := (T1643.setTop (mkF m 251 #[.val (.int p0), .val (.int p1), .val (.int p2), .val (.int p3), .val (.int p4), .val (.int p5), .val (.int (Int32.ofNat ln)), .val (.int (Int32.ofNat n)), .val (.int b0), .val (.int b1), .val (.int b2), .val (.int b3), .val (.int b4), .val (.int (0 : Int32)), .val (.int i14), .val (.int (Int32.ofNat en0)), .val (.int (Int32.ofNat en1)), .val (.int (Int32.ofNat en2)), .val (.int (Int32.ofNat en3)), .val (.int (Int32.ofNat en4)), .val (.ref x), .val (.ref o), .unset, .unset] []))) (fun t kt => st1643 t kt) ?_
  have hk1644 := Nat.le_trans hk1638 K1643.1
  have f1645 := f1639.kx K1643
  have f1646 := own_Ek f1640 K1643
  have f1647 := f1641.kx K1643
  have z1648 := Nat.le_trans z1642 K1643.1
  refine own_Go.of (S' := (T1643.setTop (mkF m 260 #[.val (.int p0), .val (.int p1), .val (.int p2), .val (.int p3), .val (.int p4), .val (.int p5), .val (.int (Int32.ofNat ln)), .val (.int (Int32.ofNat n)), .val (.int b0), .val (.int b1), .val (.int b2), .val (.int b3), .val (.int b4), .val (.int (0 : Int32)), .val (.int i14), .val (.int (Int32.ofNat en0)), .val (.int (Int32.ofNat en1)), .val (.int (Int32.ofNat en2)), .val (.int (Int32.ofNat en3)), .val (.int (Int32.ofNat en4)), .val (.ref x), .val (.ref o), .unset, .unset] [(.int (Int32.ofNat en4)), (.int b4), (.int (4 : Int32)), (.int (Int32.ofNat n)), (.ref o)]))) (fun t kt => ?_) ?_
  · show Steps p.tables e below (T1643.setTop (mkF m 251 #[.val (.int p0), .val (.int p1), .val (.int p2), .val (.int p3), .val (.int p4), .val (.int p5), .val (.int (Int32.ofNat ln)), .val (.int (Int32.ofNat n)), .val (.int b0), .val (.int b1), .val (.int b2), .val (.int b3), .val (.int b4), .val (.int (0 : Int32)), .val (.int i14), .val (.int (Int32.ofNat en0)), .val (.int (Int32.ofNat en1)), .val (.int (Int32.ofNat en2)), .val (.int (Int32.ofNat en3)), .val (.int (Int32.ofNat en4)), .val (.ref x), .val (.ref o), .unset, .unset] [])) _
    refine XS.aload X1643.here hx rfl (own_hb hby at_251) rfl rfl ?_
    refine XS.iload X1643.here hx rfl (own_hb hby at_253) rfl ?_
    refine XS.iconst X1643.here hx rfl (own_hb hby at_255) ?_
    refine XS.iload X1643.here hx rfl (own_hb hby at_256) rfl ?_
    show Steps p.tables e below (T1643.setTop (mkF m 258 #[.val (.int p0), .val (.int p1), .val (.int p2), .val (.int p3), .val (.int p4), .val (.int p5), .val (.int (Int32.ofNat ln)), .val (.int (Int32.ofNat n)), .val (.int b0), .val (.int b1), .val (.int b2), .val (.int b3), .val (.int b4), .val (.int (0 : Int32)), .val (.int i14), .val (.int (Int32.ofNat en0)), .val (.int (Int32.ofNat en1)), .val (.int (Int32.ofNat en2)), .val (.int (Int32.ofNat en3)), .val (.int (Int32.ofNat en4)), .val (.ref x), .val (.ref o), .unset, .unset] [(.int b4), (.int (4 : Int32)), (.int (Int32.ofNat n)), (.ref o)])) _
    refine XS.iload X1643.here hx rfl (own_hb hby at_258) rfl ?_
    exact kt
  obtain ⟨_, _, ⟨T1649, L1649, k1649, n1649⟩, -, X1649, ⟨Lc1649, hQ1649, l1649, y1649, z1649⟩, st1649⟩ := Jvm.LawKit.callS X1643 hx (y := (⟨"com/example/quayside/quayside/RowBeyondBytesPinLaw", "put", "(Lcom/example/quayside/quayside/Row;IIZI)V"⟩ : MethodName)) hown (mvT hZ (hw _ (List.mem_of_getElem? (i := 41) rfl))) (mvT hZ (hw _ (List.mem_of_getElem? (i := 42) rfl))) (mvT hZ (hw _ (List.mem_of_getElem? (i := 2) rfl))) (mvT hZ (hw _ (List.mem_of_getElem? (i := 43) rfl))) (by decide) (backOf (W := 0) (rm6 l Z a0 hw [] o n 4 b4 en4 x (min (3 + 1) n) cap'1643 d x T1643.heap n0 z1648 p1643_0 f1647 hb4 (by omega) hn (by decide) he4 hD4) hZ (hw _ (List.mem_of_getElem? (i := 43) rfl)) (hw _ (List.mem_of_getElem? (i := 2) rfl)) (by decide) (by decide)) (g := (mkF m 260 #[.val (.int p0), .val (.int p1), .val (.int p2), .val (.int p3), .val (.int p4), .val (.int p5), .val (.int (Int32.ofNat ln)), .val (.int (Int32.ofNat n)), .val (.int b0), .val (.int b1), .val (.int b2), .val (.int b3), .val (.int b4), .val (.int (0 : Int32)), .val (.int i14), .val (.int (Int32.ofNat en0)), .val (.int (Int32.ofNat en1)), .val (.int (Int32.ofNat en2)), .val (.int (Int32.ofNat en3)), .val (.int (Int32.ofNat en4)), .val (.ref x), .val (.ref o), .unset, .unset] [(.int (Int32.ofNat en4)), (.int b4), (.int (4 : Int32)), (.int (Int32.ofNat n)), (.ref o)])) rfl (by rw [hml]; rfl) (argsL := [(.ref o), (.int (Int32.ofNat n)), (.int (4 : Int32)), (.int b4), (.int (Int32.ofNat en4))]) (rest := []) (lenOf pd_7 rfl) rfl (by show 2 * 0 + _ ≤ _; exact Nat.le_of_eq rfl) (own_hb hby at_260) (fun _ _ => ⟨rfl, rfl, (by decide : 23 + 4 ≤ _), (by decide : 167 + 24 ≤ _)⟩)
  dsimp only [Pt.U, Pt.locs, Pt.cells, Pt.slots] at X1649 l1649 y1649 z1649 st1649 hQ1649
  subst l1649 y1649 z1649
  obtain ⟨cap'1649, rfl, N1649q, K1649, p1649_0⟩ := hQ1649
  have N1649 := Fr.app N1643 N1649q
  refine own_Go.of (S' := (T1649.setTop (mkF m 263 #[.val (.int p0), .val (.int p1), .val (.int p2), .val (.int p3), .val (.int p4), .val (.int p5), .val (.int (Int32.ofNat ln)), .val (.int (Int32.ofNat n)), .val (.int b0), .val (.int b1), .val (.int b2), .val (.int b3), .val (.int b4), .val (.int (0 : Int32)), .val (.int i14), .val (.int (Int32.ofNat en0)), .val (.int (Int32.ofNat en1)), .val (.int (Int32.ofNat en2)), .val (.int (Int32.ofNat en3)), .val (.int (Int32.ofNat en4)), .val (.ref x), .val (.ref o), .unset, .unset] []))) (fun t kt => st1649 t kt) ?_
  have hk1650 := Nat.le_trans hk1644 K1649.1
  have f1651 := f1645.kx K1649
  have f1652 := own_Ek f1646 K1649
  have f1653 := f1647.kx K1649
  have z1654 := Nat.le_trans z1648 K1649.1
  refine own_Go.of (S' := (T1649.setTop (mkF m 275 #[.val (.int p0), .val (.int p1), .val (.int p2), .val (.int p3), .val (.int p4), .val (.int p5), .val (.int (Int32.ofNat ln)), .val (.int (Int32.ofNat n)), .val (.int b0), .val (.int b1), .val (.int b2), .val (.int b3), .val (.int b4), .val (.int (0 : Int32)), .val (.int i14), .val (.int (Int32.ofNat en0)), .val (.int (Int32.ofNat en1)), .val (.int (Int32.ofNat en2)), .val (.int (Int32.ofNat en3)), .val (.int (Int32.ofNat en4)), .val (.ref x), .val (.ref o), .unset, .unset] []))) (fun t kt => ?_) ?_
  · show Steps p.tables e below (T1649.setTop (mkF m 263 #[.val (.int p0), .val (.int p1), .val (.int p2), .val (.int p3), .val (.int p4), .val (.int p5), .val (.int (Int32.ofNat ln)), .val (.int (Int32.ofNat n)), .val (.int b0), .val (.int b1), .val (.int b2), .val (.int b3), .val (.int b4), .val (.int (0 : Int32)), .val (.int i14), .val (.int (Int32.ofNat en0)), .val (.int (Int32.ofNat en1)), .val (.int (Int32.ofNat en2)), .val (.int (Int32.ofNat en3)), .val (.int (Int32.ofNat en4)), .val (.ref x), .val (.ref o), .unset, .unset] [])) _
    refine XS.iload X1649.here hx rfl (own_hb hby at_263) rfl ?_
    refine XS.ifYes X1649.here hx rfl (pc0 := 265) (pc' := 275) rfl (own_hb hby at_265) rfl ((if0 _ _).trans (teq (rfl : (0 : Int32) = (0 : Int32))).1) (by decide) (by decide) ?_
    exact kt
  exact seg275 (vm0 := vm0) hw hx hZ hS1 hby hml hret hlk hown hnm p0 p1 p2 p3 p4 p5 h0 n0 ln n b0 b1 b2 b3 b4 (0 : Int32) i14 en0 en1 en2 en3 en4 x o cap'1649 d f (own_mono X1649 (by decide) (by decide)) rfl N1649 z1654 (own_kcast (by omega : (min (4 + 1) n) = n) p1649_0) f1651 hln hn hb0 hb1 hb2 hb3 hb4 he0 he1 he2 he3 he4 hD0 hD1 hD2 hD3 hD4 hk1650
theorem pd_8 : parseMethodDescriptor "([B)V" = some ⟨[(.array .byte)], none⟩ := by decide +kernel
set_option maxRecDepth 65536 in
set_option maxHeartbeats 40000000 in
theorem seg203l {p : Program} {l : Launch} {e : Env} {s : State} {vm0 : Vm} {kk : Nat} {m : MethodId} {below : List Frame} {meth : Method} {c : Code} {Z : State} {a0 : Array Value} (hw : ∀ d ∈ tables_1, d.before a0 Z = true) (hx : p.tables.exec = Jvm.exec) (hZ : Z.Warmed39 (s.setVm vm0).vm) (hS1 : s.Since vm0 kk) (hby : c.code = code) (hml : c.maxLocals = 24) (hret : meth.sig.returnType = ret) (hlk : meth.locks = false) (hown : (s.setVm vm0).vm.findClass "com/example/quayside/quayside/RowBeyondBytesPinLaw" = some m.cls) (hnm : meth.name = "law") (p0 : Int32) (p1 : Int32) (p2 : Int32) (p3 : Int32) (p4 : Int32) (p5 : Int32) (h0 : Heap) (n0 : Nat) (ln : Nat) (n : Nat) (b0 : Int32) (b1 : Int32) (b2 : Int32) (b3 : Int32) (b4 : Int32) (i14 : Int32) (en0 : Nat) (en1 : Nat) (en2 : Nat) (en3 : Nat) (en4 : Nat) (x : Addr) (o : Addr) (cap : Nat) (d : Nat → Int32) (f : Nat → Value) (bs : Addr)
    {T1 : State} {h1 : Heap} {locs : List Loc} (X1 : Stand p l e room_1 (s.setVm vm0) m #[(.int p0), (.int p1), (.int p2), (.int p3), (.int p4), (.int p5)] below meth c T1 locs 7 71) (e1 : T1.heap = h1) (N1 : Fr n0 locs) (Z1 : n0 ≤ h1.size) (row : own_Row Z h1 n0 x o 0 cap d bs) (pr1 : own_Ar Z h1 x .byte ln f) (pr2 : Exa Z h1 x "[B") (hln : ln ≤ 7) (hn : n ≤ 5) (hb0 : b0 = 0 ∨ b0 = 1) (hb1 : b1 = 0 ∨ b1 = 1) (hb2 : b2 = 0 ∨ b2 = 1) (hb3 : b3 = 0 ∨ b3 = 1) (hb4 : b4 = 0 ∨ b4 = 1) (he0 : en0 ≤ 2147483647) (he1 : en1 ≤ 2147483647) (he2 : en2 ≤ 2147483647) (he3 : en3 ≤ 2147483647) (he4 : en4 ≤ 2147483647) (hD0 : 0 < n → d 0 = if b0 = 0 then Int32.ofNat en0 else 0) (hD1 : 1 < n → d 1 = if b1 = 0 then Int32.ofNat en1 else 0) (hD2 : 2 < n → d 2 = if b2 = 0 then Int32.ofNat en2 else 0) (hD3 : 3 < n → d 3 = if b3 = 0 then Int32.ofNat en3 else 0) (hD4 : 4 < n → d 4 = if b4 = 0 then Int32.ofNat en4 else 0) (hk1 : kk ≤ h1.size) :
    own_Go p e below (T1.setTop (mkF m 203 #[.val (.int p0), .val (.int p1), .val (.int p2), .val (.int p3), .val (.int p4), .val (.int p5), .val (.int (Int32.ofNat ln)), .val (.int (Int32.ofNat n)), .val (.int b0), .val (.int b1), .val (.int b2), .val (.int b3), .val (.int b4), .val (.int (1 : Int32)), .val (.int i14), .val (.int (Int32.ofNat en0)), .val (.int (Int32.ofNat en1)), .val (.int (Int32.ofNat en2)), .val (.int (Int32.ofNat en3)), .val (.int (Int32.ofNat en4)), .val (.ref x), .val (.ref o), .unset, .unset] [])) (own_EndW s (Q_rm0 Z p0 p1 p2 p3 p4 p5 h0 n0) room_1.cells room_1.slots) := by
  have hwS : ∀ a ∈ Bundle.stringAtoms, a.before a0 Z = true := fun d hd => hw d ((by decide +kernel : ∀ d ∈ Bundle.stringAtoms, d ∈ tables_1) d hd)
  have hLx : own_Lt h1 x := pr1.lt
  refine own_Go.of (S' := (T1.setTop (mkF m 212 #[.val (.int p0), .val (.int p1), .val (.int p2), .val (.int p3), .val (.int p4), .val (.int p5), .val (.int (Int32.ofNat ln)), .val (.int (Int32.ofNat n)), .val (.int b0), .val (.int b1), .val (.int b2), .val (.int b3), .val (.int b4), .val (.int (1 : Int32)), .val (.int i14), .val (.int (Int32.ofNat en0)), .val (.int (Int32.ofNat en1)), .val (.int (Int32.ofNat en2)), .val (.int (Int32.ofNat en3)), .val (.int (Int32.ofNat en4)), .val (.ref x), .val (.ref o), .unset, .unset] [(.int (Int32.ofNat en0)), (.int b0), (.int (0 : Int32)), (.int (Int32.ofNat n)), (.ref o)]))) (fun t kt => ?_) ?_
  · show Steps p.tables e below (T1.setTop (mkF m 203 #[.val (.int p0), .val (.int p1), .val (.int p2), .val (.int p3), .val (.int p4), .val (.int p5), .val (.int (Int32.ofNat ln)), .val (.int (Int32.ofNat n)), .val (.int b0), .val (.int b1), .val (.int b2), .val (.int b3), .val (.int b4), .val (.int (1 : Int32)), .val (.int i14), .val (.int (Int32.ofNat en0)), .val (.int (Int32.ofNat en1)), .val (.int (Int32.ofNat en2)), .val (.int (Int32.ofNat en3)), .val (.int (Int32.ofNat en4)), .val (.ref x), .val (.ref o), .unset, .unset] [])) _
    refine XS.aload X1.here hx rfl (own_hb hby at_203) rfl rfl ?_
    refine XS.iload X1.here hx rfl (own_hb hby at_205) rfl ?_
    refine XS.iconst X1.here hx rfl (own_hb hby at_207) ?_
    refine XS.iload X1.here hx rfl (own_hb hby at_208) rfl ?_
    show Steps p.tables e below (T1.setTop (mkF m 210 #[.val (.int p0), .val (.int p1), .val (.int p2), .val (.int p3), .val (.int p4), .val (.int p5), .val (.int (Int32.ofNat ln)), .val (.int (Int32.ofNat n)), .val (.int b0), .val (.int b1), .val (.int b2), .val (.int b3), .val (.int b4), .val (.int (1 : Int32)), .val (.int i14), .val (.int (Int32.ofNat en0)), .val (.int (Int32.ofNat en1)), .val (.int (Int32.ofNat en2)), .val (.int (Int32.ofNat en3)), .val (.int (Int32.ofNat en4)), .val (.ref x), .val (.ref o), .unset, .unset] [(.int b0), (.int (0 : Int32)), (.int (Int32.ofNat n)), (.ref o)])) _
    refine XS.iload X1.here hx rfl (own_hb hby at_210) rfl ?_
    exact kt
  obtain ⟨_, _, ⟨T1655, L1655, k1655, n1655⟩, -, X1655, ⟨Lc1655, hQ1655, l1655, y1655, z1655⟩, st1655⟩ := Jvm.LawKit.callS X1 hx (y := (⟨"com/example/quayside/quayside/RowBeyondBytesPinLaw", "put", "(Lcom/example/quayside/quayside/Row;IIZI)V"⟩ : MethodName)) hown (mvT hZ (hw _ (List.mem_of_getElem? (i := 41) rfl))) (mvT hZ (hw _ (List.mem_of_getElem? (i := 42) rfl))) (mvT hZ (hw _ (List.mem_of_getElem? (i := 2) rfl))) (mvT hZ (hw _ (List.mem_of_getElem? (i := 43) rfl))) (by decide) (backOf (W := 0) (rm6 l Z a0 hw [] o n 0 b0 en0 x 0 cap d bs h1 n0 Z1 row hLx hb0 (by omega) hn (by decide) he0 hD0) hZ (hw _ (List.mem_of_getElem? (i := 43) rfl)) (hw _ (List.mem_of_getElem? (i := 2) rfl)) (by decide) (by decide)) (g := (mkF m 212 #[.val (.int p0), .val (.int p1), .val (.int p2), .val (.int p3), .val (.int p4), .val (.int p5), .val (.int (Int32.ofNat ln)), .val (.int (Int32.ofNat n)), .val (.int b0), .val (.int b1), .val (.int b2), .val (.int b3), .val (.int b4), .val (.int (1 : Int32)), .val (.int i14), .val (.int (Int32.ofNat en0)), .val (.int (Int32.ofNat en1)), .val (.int (Int32.ofNat en2)), .val (.int (Int32.ofNat en3)), .val (.int (Int32.ofNat en4)), .val (.ref x), .val (.ref o), .unset, .unset] [(.int (Int32.ofNat en0)), (.int b0), (.int (0 : Int32)), (.int (Int32.ofNat n)), (.ref o)])) rfl (by rw [hml]; rfl) (argsL := [(.ref o), (.int (Int32.ofNat n)), (.int (0 : Int32)), (.int b0), (.int (Int32.ofNat en0))]) (rest := []) (lenOf pd_7 rfl) rfl (by show 2 * 0 + _ ≤ _; exact Nat.le_of_eq rfl) (own_hb hby at_212) (fun _ _ => ⟨rfl, e1, (by decide : 7 + 4 ≤ _), (by decide : 71 + 24 ≤ _)⟩)
  dsimp only [Pt.U, Pt.locs, Pt.cells, Pt.slots] at X1655 l1655 y1655 z1655 st1655 hQ1655
  subst l1655 y1655 z1655
  obtain ⟨cap'1655, rfl, N1655q, K1655, p1655_0⟩ := hQ1655
  have N1655 := Fr.app N1 N1655q
  refine own_Go.of (S' := (T1655.setTop (mkF m 215 #[.val (.int p0), .val (.int p1), .val (.int p2), .val (.int p3), .val (.int p4), .val (.int p5), .val (.int (Int32.ofNat ln)), .val (.int (Int32.ofNat n)), .val (.int b0), .val (.int b1), .val (.int b2), .val (.int b3), .val (.int b4), .val (.int (1 : Int32)), .val (.int i14), .val (.int (Int32.ofNat en0)), .val (.int (Int32.ofNat en1)), .val (.int (Int32.ofNat en2)), .val (.int (Int32.ofNat en3)), .val (.int (Int32.ofNat en4)), .val (.ref x), .val (.ref o), .unset, .unset] []))) (fun t kt => st1655 t kt) ?_
  have hk1656 := Nat.le_trans hk1 K1655.1
  have f1657 := pr1.kx K1655
  have f1658 := own_Ek pr2 K1655
  have f1659 := hLx.kx K1655
  have z1660 := Nat.le_trans Z1 K1655.1
  refine own_Go.of (S' := (T1655.setTop (mkF m 224 #[.val (.int p0), .val (.int p1), .val (.int p2), .val (.int p3), .val (.int p4), .val (.int p5), .val (.int (Int32.ofNat ln)), .val (.int (Int32.ofNat n)), .val (.int b0), .val (.int b1), .val (.int b2), .val (.int b3), .val (.int b4), .val (.int (1 : Int32)), .val (.int i14), .val (.int (Int32.ofNat en0)), .val (.int (Int32.ofNat en1)), .val (.int (Int32.ofNat en2)), .val (.int (Int32.ofNat en3)), .val (.int (Int32.ofNat en4)), .val (.ref x), .val (.ref o), .unset, .unset] [(.int (Int32.ofNat en1)), (.int b1), (.int (1 : Int32)), (.int (Int32.ofNat n)), (.ref o)]))) (fun t kt => ?_) ?_
  · show Steps p.tables e below (T1655.setTop (mkF m 215 #[.val (.int p0), .val (.int p1), .val (.int p2), .val (.int p3), .val (.int p4), .val (.int p5), .val (.int (Int32.ofNat ln)), .val (.int (Int32.ofNat n)), .val (.int b0), .val (.int b1), .val (.int b2), .val (.int b3), .val (.int b4), .val (.int (1 : Int32)), .val (.int i14), .val (.int (Int32.ofNat en0)), .val (.int (Int32.ofNat en1)), .val (.int (Int32.ofNat en2)), .val (.int (Int32.ofNat en3)), .val (.int (Int32.ofNat en4)), .val (.ref x), .val (.ref o), .unset, .unset] [])) _
    refine XS.aload X1655.here hx rfl (own_hb hby at_215) rfl rfl ?_
    refine XS.iload X1655.here hx rfl (own_hb hby at_217) rfl ?_
    refine XS.iconst X1655.here hx rfl (own_hb hby at_219) ?_
    refine XS.iload X1655.here hx rfl (own_hb hby at_220) rfl ?_
    show Steps p.tables e below (T1655.setTop (mkF m 222 #[.val (.int p0), .val (.int p1), .val (.int p2), .val (.int p3), .val (.int p4), .val (.int p5), .val (.int (Int32.ofNat ln)), .val (.int (Int32.ofNat n)), .val (.int b0), .val (.int b1), .val (.int b2), .val (.int b3), .val (.int b4), .val (.int (1 : Int32)), .val (.int i14), .val (.int (Int32.ofNat en0)), .val (.int (Int32.ofNat en1)), .val (.int (Int32.ofNat en2)), .val (.int (Int32.ofNat en3)), .val (.int (Int32.ofNat en4)), .val (.ref x), .val (.ref o), .unset, .unset] [(.int b1), (.int (1 : Int32)), (.int (Int32.ofNat n)), (.ref o)])) _
    refine XS.iload X1655.here hx rfl (own_hb hby at_222) rfl ?_
    exact kt
  obtain ⟨_, _, ⟨T1661, L1661, k1661, n1661⟩, -, X1661, ⟨Lc1661, hQ1661, l1661, y1661, z1661⟩, st1661⟩ := Jvm.LawKit.callS X1655 hx (y := (⟨"com/example/quayside/quayside/RowBeyondBytesPinLaw", "put", "(Lcom/example/quayside/quayside/Row;IIZI)V"⟩ : MethodName)) hown (mvT hZ (hw _ (List.mem_of_getElem? (i := 41) rfl))) (mvT hZ (hw _ (List.mem_of_getElem? (i := 42) rfl))) (mvT hZ (hw _ (List.mem_of_getElem? (i := 2) rfl))) (mvT hZ (hw _ (List.mem_of_getElem? (i := 43) rfl))) (by decide) (backOf (W := 0) (rm6 l Z a0 hw [] o n 1 b1 en1 x (min (0 + 1) n) cap'1655 d bs T1655.heap n0 z1660 p1655_0 f1659 hb1 (by omega) hn (by decide) he1 hD1) hZ (hw _ (List.mem_of_getElem? (i := 43) rfl)) (hw _ (List.mem_of_getElem? (i := 2) rfl)) (by decide) (by decide)) (g := (mkF m 224 #[.val (.int p0), .val (.int p1), .val (.int p2), .val (.int p3), .val (.int p4), .val (.int p5), .val (.int (Int32.ofNat ln)), .val (.int (Int32.ofNat n)), .val (.int b0), .val (.int b1), .val (.int b2), .val (.int b3), .val (.int b4), .val (.int (1 : Int32)), .val (.int i14), .val (.int (Int32.ofNat en0)), .val (.int (Int32.ofNat en1)), .val (.int (Int32.ofNat en2)), .val (.int (Int32.ofNat en3)), .val (.int (Int32.ofNat en4)), .val (.ref x), .val (.ref o), .unset, .unset] [(.int (Int32.ofNat en1)), (.int b1), (.int (1 : Int32)), (.int (Int32.ofNat n)), (.ref o)])) rfl (by rw [hml]; rfl) (argsL := [(.ref o), (.int (Int32.ofNat n)), (.int (1 : Int32)), (.int b1), (.int (Int32.ofNat en1))]) (rest := []) (lenOf pd_7 rfl) rfl (by show 2 * 0 + _ ≤ _; exact Nat.le_of_eq rfl) (own_hb hby at_224) (fun _ _ => ⟨rfl, rfl, (by decide : 11 + 4 ≤ _), (by decide : 95 + 24 ≤ _)⟩)
  dsimp only [Pt.U, Pt.locs, Pt.cells, Pt.slots] at X1661 l1661 y1661 z1661 st1661 hQ1661
  subst l1661 y1661 z1661
  obtain ⟨cap'1661, rfl, N1661q, K1661, p1661_0⟩ := hQ1661
  have N1661 := Fr.app N1655 N1661q
  refine own_Go.of (S' := (T1661.setTop (mkF m 227 #[.val (.int p0), .val (.int p1), .val (.int p2), .val (.int p3), .val (.int p4), .val (.int p5), .val (.int (Int32.ofNat ln)), .val (.int (Int32.ofNat n)), .val (.int b0), .val (.int b1), .val (.int b2), .val (.int b3), .val (.int b4), .val (.int (1 : Int32)), .val (.int i14), .val (.int (Int32.ofNat en0)), .val (.int (Int32.ofNat en1)), .val (.int (Int32.ofNat en2)), .val (.int (Int32.ofNat en3)), .val (.int (Int32.ofNat en4)), .val (.ref x), .val (.ref o), .unset, .unset] []))) (fun t kt => st1661 t kt) ?_
  have hk1662 := Nat.le_trans hk1656 K1661.1
  have f1663 := f1657.kx K1661
  have f1664 := own_Ek f1658 K1661
  have f1665 := f1659.kx K1661
  have z1666 := Nat.le_trans z1660 K1661.1
  refine own_Go.of (S' := (T1661.setTop (mkF m 236 #[.val (.int p0), .val (.int p1), .val (.int p2), .val (.int p3), .val (.int p4), .val (.int p5), .val (.int (Int32.ofNat ln)), .val (.int (Int32.ofNat n)), .val (.int b0), .val (.int b1), .val (.int b2), .val (.int b3), .val (.int b4), .val (.int (1 : Int32)), .val (.int i14), .val (.int (Int32.ofNat en0)), .val (.int (Int32.ofNat en1)), .val (.int (Int32.ofNat en2)), .val (.int (Int32.ofNat en3)), .val (.int (Int32.ofNat en4)), .val (.ref x), .val (.ref o), .unset, .unset] [(.int (Int32.ofNat en2)), (.int b2), (.int (2 : Int32)), (.int (Int32.ofNat n)), (.ref o)]))) (fun t kt => ?_) ?_
  · show Steps p.tables e below (T1661.setTop (mkF m 227 #[.val (.int p0), .val (.int p1), .val (.int p2), .val (.int p3), .val (.int p4), .val (.int p5), .val (.int (Int32.ofNat ln)), .val (.int (Int32.ofNat n)), .val (.int b0), .val (.int b1), .val (.int b2), .val (.int b3), .val (.int b4), .val (.int (1 : Int32)), .val (.int i14), .val (.int (Int32.ofNat en0)), .val (.int (Int32.ofNat en1)), .val (.int (Int32.ofNat en2)), .val (.int (Int32.ofNat en3)), .val (.int (Int32.ofNat en4)), .val (.ref x), .val (.ref o), .unset, .unset] [])) _
    refine XS.aload X1661.here hx rfl (own_hb hby at_227) rfl rfl ?_
    refine XS.iload X1661.here hx rfl (own_hb hby at_229) rfl ?_
    refine XS.iconst X1661.here hx rfl (own_hb hby at_231) ?_
    refine XS.iload X1661.here hx rfl (own_hb hby at_232) rfl ?_
    show Steps p.tables e below (T1661.setTop (mkF m 234 #[.val (.int p0), .val (.int p1), .val (.int p2), .val (.int p3), .val (.int p4), .val (.int p5), .val (.int (Int32.ofNat ln)), .val (.int (Int32.ofNat n)), .val (.int b0), .val (.int b1), .val (.int b2), .val (.int b3), .val (.int b4), .val (.int (1 : Int32)), .val (.int i14), .val (.int (Int32.ofNat en0)), .val (.int (Int32.ofNat en1)), .val (.int (Int32.ofNat en2)), .val (.int (Int32.ofNat en3)), .val (.int (Int32.ofNat en4)), .val (.ref x), .val (.ref o), .unset, .unset] [(.int b2), (.int (2 : Int32)), (.int (Int32.ofNat n)), (.ref o)])) _
    refine XS.iload X1661.here hx rfl (own_hb hby at_234) rfl ?_
    exact kt
  obtain ⟨_, _, ⟨T1667, L1667, k1667, n1667⟩, -, X1667, ⟨Lc1667, hQ1667, l1667, y1667, z1667⟩, st1667⟩ := Jvm.LawKit.callS X1661 hx (y := (⟨"com/example/quayside/quayside/RowBeyondBytesPinLaw", "put", "(Lcom/example/quayside/quayside/Row;IIZI)V"⟩ : MethodName)) hown (mvT hZ (hw _ (List.mem_of_getElem? (i := 41) rfl))) (mvT hZ (hw _ (List.mem_of_getElem? (i := 42) rfl))) (mvT hZ (hw _ (List.mem_of_getElem? (i := 2) rfl))) (mvT hZ (hw _ (List.mem_of_getElem? (i := 43) rfl))) (by decide) (backOf (W := 0) (rm6 l Z a0 hw [] o n 2 b2 en2 x (min (1 + 1) n) cap'1661 d bs T1661.heap n0 z1666 p1661_0 f1665 hb2 (by omega) hn (by decide) he2 hD2) hZ (hw _ (List.mem_of_getElem? (i := 43) rfl)) (hw _ (List.mem_of_getElem? (i := 2) rfl)) (by decide) (by decide)) (g := (mkF m 236 #[.val (.int p0), .val (.int p1), .val (.int p2), .val (.int p3), .val (.int p4), .val (.int p5), .val (.int (Int32.ofNat ln)), .val (.int (Int32.ofNat n)), .val (.int b0), .val (.int b1), .val (.int b2), .val (.int b3), .val (.int b4), .val (.int (1 : Int32)), .val (.int i14), .val (.int (Int32.ofNat en0)), .val (.int (Int32.ofNat en1)), .val (.int (Int32.ofNat en2)), .val (.int (Int32.ofNat en3)), .val (.int (Int32.ofNat en4)), .val (.ref x), .val (.ref o), .unset, .unset] [(.int (Int32.ofNat en2)), (.int b2), (.int (2 : Int32)), (.int (Int32.ofNat n)), (.ref o)])) rfl (by rw [hml]; rfl) (argsL := [(.ref o), (.int (Int32.ofNat n)), (.int (2 : Int32)), (.int b2), (.int (Int32.ofNat en2))]) (rest := []) (lenOf pd_7 rfl) rfl (by show 2 * 0 + _ ≤ _; exact Nat.le_of_eq rfl) (own_hb hby at_236) (fun _ _ => ⟨rfl, rfl, (by decide : 15 + 4 ≤ _), (by decide : 119 + 24 ≤ _)⟩)
  dsimp only [Pt.U, Pt.locs, Pt.cells, Pt.slots] at X1667 l1667 y1667 z1667 st1667 hQ1667
  subst l1667 y1667 z1667
  obtain ⟨cap'1667, rfl, N1667q, K1667, p1667_0⟩ := hQ1667
  have N1667 := Fr.app N1661 N1667q
  refine own_Go.of (S' := (T1667.setTop (mkF m 239 #[.val (.int p0), .val (.int p1), .val (.int p2), .val (.int p3), .val (.int p4), .val (.int p5), .val (.int (Int32.ofNat ln)), .val (.int (Int32.ofNat n)), .val (.int b0), .val (.int b1), .val (.int b2), .val (.int b3), .val (.int b4), .val (.int (1 : Int32)), .val (.int i14), .val (.int (Int32.ofNat en0)), .val (.int (Int32.ofNat en1)), .val (.int (Int32.ofNat en2)), .val (.int (Int32.ofNat en3)), .val (.int (Int32.ofNat en4)), .val (.ref x), .val (.ref o), .unset, .unset] []))) (fun t kt => st1667 t kt) ?_
  have hk1668 := Nat.le_trans hk1662 K1667.1
  have f1669 := f1663.kx K1667
  have f1670 := own_Ek f1664 K1667
  have f1671 := f1665.kx K1667
  have z1672 := Nat.le_trans z1666 K1667.1
  refine own_Go.of (S' := (T1667.setTop (mkF m 248 #[.val (.int p0), .val (.int p1), .val (.int p2), .val (.int p3), .val (.int p4), .val (.int p5), .val (.int (Int32.ofNat ln)), .val (.int (Int32.ofNat n)), .val (.int b0), .val (.int b1), .val (.int b2), .val (.int b3), .val (.int b4), .val (.int (1 : Int32)), .val (.int i14), .val (.int (Int32.ofNat en0)), .val (.int (Int32.ofNat en1)), .val (.int (Int32.ofNat en2)), .val (.int (Int32.ofNat en3)), .val (.int (Int32.ofNat en4)), .val (.ref x), .val (.ref o), .unset, .unset] [(.int (Int32.ofNat en3)), (.int b3), (.int (3 : Int32)), (.int (Int32.ofNat n)), (.ref o)]))) (fun t kt => ?_) ?_
  · show Steps p.tables e below (T1667.setTop (mkF m 239 #[.val (.int p0), .val (.int p1), .val (.int p2), .val (.int p3), .val (.int p4), .val (.int p5), .val (.int (Int32.ofNat ln)), .val (.int (Int32.ofNat n)), .val (.int b0), .val (.int b1), .val (.int b2), .val (.int b3), .val (.int b4), .val (.int (1 : Int32)), .val (.int i14), .val (.int (Int32.ofNat en0)), .val (.int (Int32.ofNat en1)), .val (.int (Int32.ofNat en2)), .val (.int (Int32.ofNat en3)), .val (.int (Int32.ofNat en4)), .val (.ref x), .val (.ref o), .unset, .unset] [])) _
    refine XS.aload X1667.here hx rfl (own_hb hby at_239) rfl rfl ?_
    refine XS.iload X1667.here hx rfl (own_hb hby at_241) rfl ?_
    refine XS.iconst X1667.here hx rfl (own_hb hby at_243) ?_
    refine XS.iload X1667.here hx rfl (own_hb hby at_244) rfl ?_
    show Steps p.tables e below (T1667.setTop (mkF m 246 #[.val (.int p0), .val (.int p1), .val (.int p2), .val (.int p3), .val (.int p4), .val (.int p5), .val (.int (Int32.ofNat ln)), .val (.int (Int32.ofNat n)), .val (.int b0), .val (.int b1), .val (.int b2), .val (.int b3), .val (.int b4), .val (.int (1 : Int32)), .val (.int i14), .val (.int (Int32.ofNat en0)), .val (.int (Int32.ofNat en1)), .val (.int (Int32.ofNat en2)), .val (.int (Int32.ofNat en3)), .val (.int (Int32.ofNat en4)), .val (.ref x), .val (.ref o), .unset, .unset] [(.int b3), (.int (3 : Int32)), (.int (Int32.ofNat n)), (.ref o)])) _
    refine XS.iload X1667.here hx rfl (own_hb hby at_246) rfl ?_
    exact kt
  obtain ⟨_, _, ⟨T1673, L1673, k1673, n1673⟩, -, X1673, ⟨Lc1673, hQ1673, l1673, y1673, z1673⟩, st1673⟩ := Jvm.LawKit.callS X1667 hx (y := (⟨"com/example/quayside/quayside/RowBeyondBytesPinLaw", "put", "(Lcom/example/quayside/quayside/Row;IIZI)V"⟩ : MethodName)) hown (mvT hZ (hw _ (List.mem_of_getElem? (i := 41) rfl))) (mvT hZ (hw _ (List.mem_of_getElem? (i := 42) rfl))) (mvT hZ (hw _ (List.mem_of_getElem? (i := 2) rfl))) (mvT hZ (hw _ (List.mem_of_getElem? (i := 43) rfl))) (by decide) (backOf (W := 0) (rm6 l Z a0 hw [] o n 3 b3 en3 x (min (2 + 1) n) cap'1667 d bs T1667.heap n0 z1672 p1667_0 f1671 hb3 (by omega) hn (by decide) he3 hD3) hZ (hw _ (List.mem_of_getElem? (i := 43) rfl)) (hw _ (List.mem_of_getElem? (i := 2) rfl)) (by decide) (by decide)) (g := (mkF m 248 #[.val (.int p0), .val (.int p1), .val (.int p2), .val (.int p3), .val (.int p4), .val (.int p5), .val (.int (Int32.ofNat ln)), .val (.int (Int32.ofNat n)), .val (.int b0), .val (.int b1), .val (.int b2), .val (.int b3), .val (.int b4), .val (.int (1 : Int32)), .val (.int i14), .val (.int (Int32.ofNat en0)), .val (.int (Int32.ofNat en1)), .val (.int (Int32.ofNat en2)), .val (.int (Int32.ofNat en3)), .val (.int (Int32.ofNat en4)), .val (.ref x), .val (.ref o), .unset, .unset] [(.int (Int32.ofNat en3)), (.int b3), (.int (3 : Int32)), (.int (Int32.ofNat n)), (.ref o)])) rfl (by rw [hml]; rfl) (argsL := [(.ref o), (.int (Int32.ofNat n)), (.int (3 : Int32)), (.int b3), (.int (Int32.ofNat en3))]) (rest := []) (lenOf pd_7 rfl) rfl (by show 2 * 0 + _ ≤ _; exact Nat.le_of_eq rfl) (own_hb hby at_248) (fun _ _ => ⟨rfl, rfl, (by decide : 19 + 4 ≤ _), (by decide : 143 + 24 ≤ _)⟩)
  dsimp only [Pt.U, Pt.locs, Pt.cells, Pt.slots] at X1673 l1673 y1673 z1673 st1673 hQ1673
  subst l1673 y1673 z1673
  obtain ⟨cap'1673, rfl, N1673q, K1673, p1673_0⟩ := hQ1673
  have N1673 := Fr.app N1667 N1673q
  refine own_Go.of (S' := (T1673.setTop (mkF m 251 #[.val (.int p0), .val (.int p1), .val (.int p2), .val (.int p3), .val (.int p4), .val (.int p5), .val (.int (Int32.ofNat ln)), .val (.int (Int32.ofNat n)), .val (.int b0), .val (.int b1), .val (.int b2), .val (.int b3), .val (.int b4), .val (.int (1 : Int32)), .val (.int i14), .val (.int (Int32.ofNat en0)), .val (.int (Int32.ofNat en1)), .val (.int (Int32.ofNat en2)), .val (.int (Int32.ofNat en3)), .val (.int (Int32.ofNat en4)), .val (.ref x), .val (.ref o), .unset, .unset] []))) (fun t kt => st1673 t kt) ?_
  have hk1674 := Nat.le_trans hk1668 K1673.1
  have f1675 := f1669.kx K1673
  have f1676 := own_Ek f1670 K1673
  have f1677 := f1671.kx K1673
  have z1678 := Nat.le_trans z1672 K1673.1
  refine own_Go.of (S' := (T1673.setTop (mkF m 260 #[.val (.int p0), .val (.int p1), .val (.int p2), .val (.int p3), .val (.int p4), .val (.int p5), .val (.int (Int32.ofNat ln)), .val (.int (Int32.ofNat n)), .val (.int b0), .val (.int b1), .val (.int b2), .val (.int b3), .val (.int b4), .val (.int (1 : Int32)), .val (.int i14), .val (.int (Int32.ofNat en0)), .val (.int (Int32.ofNat en1)), .val (.int (Int32.ofNat en2)), .val (.int (Int32.ofNat en3)), .val (.int (Int32.ofNat en4)), .val (.ref x), .val (.ref o), .unset, .unset] [(.int (Int32.ofNat en4)), (.int b4), (.int (4 : Int32)), (.int (Int32.ofNat n)), (.ref o)]))) (fun t kt => ?_) ?_
  · show Steps p.tables e below (T1673.setTop (mkF m 251 #[.val (.int p0), .val (.int p1), .val (.int p2), .val (.int p3), .val (.int p4), .val (.int p5), .val (.int (Int32.ofNat ln)), .val (.int (Int32.ofNat n)), .val (.int b0), .val (.int b1), .val (.int b2), .val (.int b3), .val (.int b4), .val (.int (1 : Int32)), .val (.int i14), .val (.int (Int32.ofNat en0)), .val (.int (Int32.ofNat en1)), .val (.int (Int32.ofNat en2)), .val (.int (Int32.ofNat en3)), .val (.int (Int32.ofNat en4)), .val (.ref x), .val (.ref o), .unset, .unset] [])) _
    refine XS.aload X1673.here hx rfl (own_hb hby at_251) rfl rfl ?_
    refine XS.iload X1673.here hx rfl (own_hb hby at_253) rfl ?_
    refine XS.iconst X1673.here hx rfl (own_hb hby at_255) ?_
    refine XS.iload X1673.here hx rfl (own_hb hby at_256) rfl ?_
    show Steps p.tables e below (T1673.setTop (mkF m 258 #[.val (.int p0), .val (.int p1), .val (.int p2), .val (.int p3), .val (.int p4), .val (.int p5), .val (.int (Int32.ofNat ln)), .val (.int (Int32.ofNat n)), .val (.int b0), .val (.int b1), .val (.int b2), .val (.int b3), .val (.int b4), .val (.int (1 : Int32)), .val (.int i14), .val (.int (Int32.ofNat en0)), .val (.int (Int32.ofNat en1)), .val (.int (Int32.ofNat en2)), .val (.int (Int32.ofNat en3)), .val (.int (Int32.ofNat en4)), .val (.ref x), .val (.ref o), .unset, .unset] [(.int b4), (.int (4 : Int32)), (.int (Int32.ofNat n)), (.ref o)])) _
    refine XS.iload X1673.here hx rfl (own_hb hby at_258) rfl ?_
    exact kt
  obtain ⟨_, _, ⟨T1679, L1679, k1679, n1679⟩, -, X1679, ⟨Lc1679, hQ1679, l1679, y1679, z1679⟩, st1679⟩ := Jvm.LawKit.callS X1673 hx (y := (⟨"com/example/quayside/quayside/RowBeyondBytesPinLaw", "put", "(Lcom/example/quayside/quayside/Row;IIZI)V"⟩ : MethodName)) hown (mvT hZ (hw _ (List.mem_of_getElem? (i := 41) rfl))) (mvT hZ (hw _ (List.mem_of_getElem? (i := 42) rfl))) (mvT hZ (hw _ (List.mem_of_getElem? (i := 2) rfl))) (mvT hZ (hw _ (List.mem_of_getElem? (i := 43) rfl))) (by decide) (backOf (W := 0) (rm6 l Z a0 hw [] o n 4 b4 en4 x (min (3 + 1) n) cap'1673 d bs T1673.heap n0 z1678 p1673_0 f1677 hb4 (by omega) hn (by decide) he4 hD4) hZ (hw _ (List.mem_of_getElem? (i := 43) rfl)) (hw _ (List.mem_of_getElem? (i := 2) rfl)) (by decide) (by decide)) (g := (mkF m 260 #[.val (.int p0), .val (.int p1), .val (.int p2), .val (.int p3), .val (.int p4), .val (.int p5), .val (.int (Int32.ofNat ln)), .val (.int (Int32.ofNat n)), .val (.int b0), .val (.int b1), .val (.int b2), .val (.int b3), .val (.int b4), .val (.int (1 : Int32)), .val (.int i14), .val (.int (Int32.ofNat en0)), .val (.int (Int32.ofNat en1)), .val (.int (Int32.ofNat en2)), .val (.int (Int32.ofNat en3)), .val (.int (Int32.ofNat en4)), .val (.ref x), .val (.ref o), .unset, .unset] [(.int (Int32.ofNat en4)), (.int b4), (.int (4 : Int32)), (.int (Int32.ofNat n)), (.ref o)])) rfl (by rw [hml]; rfl) (argsL := [(.ref o), (.int (Int32.ofNat n)), (.int (4 : Int32)), (.int b4), (.int (Int32.ofNat en4))]) (rest := []) (lenOf pd_7 rfl) rfl (by show 2 * 0 + _ ≤ _; exact Nat.le_of_eq rfl) (own_hb hby at_260) (fun _ _ => ⟨rfl, rfl, (by decide : 23 + 4 ≤ _), (by decide : 167 + 24 ≤ _)⟩)
  dsimp only [Pt.U, Pt.locs, Pt.cells, Pt.slots] at X1679 l1679 y1679 z1679 st1679 hQ1679
  subst l1679 y1679 z1679
  obtain ⟨cap'1679, rfl, N1679q, K1679, p1679_0⟩ := hQ1679
  have N1679 := Fr.app N1673 N1679q
  refine own_Go.of (S' := (T1679.setTop (mkF m 263 #[.val (.int p0), .val (.int p1), .val (.int p2), .val (.int p3), .val (.int p4), .val (.int p5), .val (.int (Int32.ofNat ln)), .val (.int (Int32.ofNat n)), .val (.int b0), .val (.int b1), .val (.int b2), .val (.int b3), .val (.int b4), .val (.int (1 : Int32)), .val (.int i14), .val (.int (Int32.ofNat en0)), .val (.int (Int32.ofNat en1)), .val (.int (Int32.ofNat en2)), .val (.int (Int32.ofNat en3)), .val (.int (Int32.ofNat en4)), .val (.ref x), .val (.ref o), .unset, .unset] []))) (fun t kt => st1679 t kt) ?_
  have hk1680 := Nat.le_trans hk1674 K1679.1
  have f1681 := f1675.kx K1679
  have f1682 := own_Ek f1676 K1679
  have f1683 := f1677.kx K1679
  have z1684 := Nat.le_trans z1678 K1679.1
  refine own_Go.of (S' := (T1679.setTop (mkF m 272 #[.val (.int p0), .val (.int p1), .val (.int p2), .val (.int p3), .val (.int p4), .val (.int p5), .val (.int (Int32.ofNat ln)), .val (.int (Int32.ofNat n)), .val (.int b0), .val (.int b1), .val (.int b2), .val (.int b3), .val (.int b4), .val (.int (1 : Int32)), .val (.int i14), .val (.int (Int32.ofNat en0)), .val (.int (Int32.ofNat en1)), .val (.int (Int32.ofNat en2)), .val (.int (Int32.ofNat en3)), .val (.int (Int32.ofNat en4)), .val (.ref x), .val (.ref o), .unset, .unset] [(.ref x), (.ref o)]))) (fun t kt => ?_) ?_
  · show Steps p.tables e below (T1679.setTop (mkF m 263 #[.val (.int p0), .val (.int p1), .val (.int p2), .val (.int p3), .val (.int p4), .val (.int p5), .val (.int (Int32.ofNat ln)), .val (.int (Int32.ofNat n)), .val (.int b0), .val (.int b1), .val (.int b2), .val (.int b3), .val (.int b4), .val (.int (1 : Int32)), .val (.int i14), .val (.int (Int32.ofNat en0)), .val (.int (Int32.ofNat en1)), .val (.int (Int32.ofNat en2)), .val (.int (Int32.ofNat en3)), .val (.int (Int32.ofNat en4)), .val (.ref x), .val (.ref o), .unset, .unset] [])) _
    refine XS.iload X1679.here hx rfl (own_hb hby at_263) rfl ?_
    refine XS.ifNo X1679.here hx rfl (own_hb hby at_265) rfl ((if0 _ _).trans (feq (by decide : ¬ ((1 : Int32) = (0 : Int32)))).1) ?_
    refine XS.aload X1679.here hx rfl (own_hb hby at_268) rfl rfl ?_
    refine XS.aload X1679.here hx rfl (own_hb hby at_270) rfl rfl ?_
    exact kt
  obtain ⟨cq1685, kq1685, q1685a, q1685b, q1685c⟩ := isOf hZ rfl (p1679_0).exa
  obtain ⟨_, _, ⟨T1685, L1685, k1685, n1685⟩, -, X1685, hSn1685, hgr1685, ⟨Lc1685, hQ1685, l1685, y1685, z1685⟩, st1685⟩ := X1679.virtualBackS hx (y := (⟨"com/example/quayside/quayside/Row", "setBytes", "([B)V"⟩ : MethodName)) (z := (⟨"com/example/quayside/quayside/Row", "setBytes", "([B)V"⟩ : MethodName)) hown (mvT hZ (hw _ (List.mem_of_getElem? (i := 21) rfl))) (mvT hZ (hw _ (List.mem_of_getElem? (i := 22) rfl))) (notFace_of_selects (args := #[]) (mvT hZ (hw _ (List.mem_of_getElem? (i := 24) rfl)))) (mvT hZ (hw _ (List.mem_of_getElem? (i := 24) rfl))) (mvT hZ (hw _ (List.mem_of_getElem? (i := 23) rfl))) (by decide) (backOfS (W := 0) (rm4 l Z a0 hw [] o x (min (4 + 1) n) cap'1679 d bs ln f T1679.heap n0 z1684 p1679_0 f1681 f1682) hZ (hw _ (List.mem_of_getElem? (i := 25) rfl)) (hw _ (List.mem_of_getElem? (i := 7) rfl)) (by decide) (by decide)) q1685a q1685c (g := (mkF m 272 #[.val (.int p0), .val (.int p1), .val (.int p2), .val (.int p3), .val (.int p4), .val (.int p5), .val (.int (Int32.ofNat ln)), .val (.int (Int32.ofNat n)), .val (.int b0), .val (.int b1), .val (.int b2), .val (.int b3), .val (.int b4), .val (.int (1 : Int32)), .val (.int i14), .val (.int (Int32.ofNat en0)), .val (.int (Int32.ofNat en1)), .val (.int (Int32.ofNat en2)), .val (.int (Int32.ofNat en3)), .val (.int (Int32.ofNat en4)), .val (.ref x), .val (.ref o), .unset, .unset] [(.ref x), (.ref o)])) rfl (by rw [hml]; rfl) (Steps.refl _) (argsL := [(.ref x)]) (rest := []) (lenOf pd_8 rfl) rfl (by show 2 * 0 + _ ≤ _; exact Nat.le_of_eq rfl) (own_hb hby at_272) (fun _ _ => ⟨rfl, rfl, (by decide : 27 + 2 ≤ _), (by decide : 191 + 24 ≤ _)⟩)
  dsimp only [Pt.U, Pt.locs, Pt.cells, Pt.slots] at X1685 l1685 y1685 z1685 st1685 hQ1685 hSn1685 hgr1685
  subst l1685 y1685 z1685
  have hgq1685 : T1679.heap.size ≤ T1685.heap.size := by exact hgr1685
  obtain ⟨X1685, hS1685, hZ, hown⟩ := rebS (vm0 := vm0) hS1 hk1680 X1685 hSn1685 hgq1685 hZ hown
  obtain ⟨rfl, N1685q, K1685, p1685_0⟩ := hQ1685
  have N1685 := Fr.app N1679 N1685q
  refine own_Go.of (S' := (T1685.setTop (mkF m 275 #[.val (.int p0), .val (.int p1), .val (.int p2), .val (.int p3), .val (.int p4), .val (.int p5), .val (.int (Int32.ofNat ln)), .val (.int (Int32.ofNat n)), .val (.int b0), .val (.int b1), .val (.int b2), .val (.int b3), .val (.int b4), .val (.int (1 : Int32)), .val (.int i14), .val (.int (Int32.ofNat en0)), .val (.int (Int32.ofNat en1)), .val (.int (Int32.ofNat en2)), .val (.int (Int32.ofNat en3)), .val (.int (Int32.ofNat en4)), .val (.ref x), .val (.ref o), .unset, .unset] []))) (fun t kt => st1685.trans kt) ?_
  have f1686 := f1681.kx K1685
  have f1687 := own_Ek f1682 K1685
  have f1688 := f1683.kx K1685
  have z1689 := Nat.le_trans z1684 K1685.1
  exact seg275 (vm0 := T1685.vm) hw hx hZ hS1685 hby hml hret hlk hown hnm p0 p1 p2 p3 p4 p5 h0 n0 ln n b0 b1 b2 b3 b4 (1 : Int32) i14 en0 en1 en2 en3 en4 x o cap'1679 d f (own_mono X1685 (by decide) (by decide)) rfl N1685 z1689 (own_kcast (by omega : (min (4 + 1) n) = n) p1685_0) f1686 hln hn hb0 hb1 hb2 hb3 hb4 he0 he1 he2 he3 he4 hD0 hD1 hD2 hD3 hD4 (Nat.le_refl _)

def own_D (b0 b1 b2 b3 b4 : Int32) (e0 e1 e2 e3 e4 : Nat) : Nat → Int32
  | 0 => if b0 = 0 then Int32.ofNat e0 else 0
  | 1 => if b1 = 0 then Int32.ofNat e1 else 0
  | 2 => if b2 = 0 then Int32.ofNat e2 else 0
  | 3 => if b3 = 0 then Int32.ofNat e3 else 0
  | _ => if b4 = 0 then Int32.ofNat e4 else 0
theorem pd_9 : parseMethodDescriptor "(I)I" = some ⟨[.int], some .int⟩ := by decide +kernel
set_option maxRecDepth 65536 in
set_option maxHeartbeats 40000000 in
theorem rm0 (l : Launch) (Z : State) (a0 : Array Value) (hw : ∀ d ∈ tables_1, d.before a0 Z = true) (ws : List Jvm.Cond) (p0 : Int32) (p1 : Int32) (p2 : Int32) (p3 : Int32) (p4 : Int32) (p5 : Int32) (h0 : Heap) (n0 : Nat) (Z0 : n0 ≤ h0.size)  :
    own_MetW l Z h0 x code maxLocals ret ws room_1 #[(.int p0), (.int p1), (.int p2), (.int p3), (.int p4), (.int p5)] (Q_rm0 Z p0 p1 p2 p3 p4 p5 h0 n0) := by
  refine own_enterW (plainFor_of_name pn_0) ?_
  intro p e s m below meth c T0 X0 hx hby hml hret hlk hown hnm hZ e0
  have N0 := Fr.nil n0
  have hS0 : s.Since s.vm 0 := (State.WarmedH.refl s).since 0
  have hk0 : 0 ≤ h0.size := Nat.zero_le _
  have hwS : ∀ a ∈ Bundle.stringAtoms, a.before a0 Z = true := fun d hd => hw d ((by decide +kernel : ∀ d ∈ Bundle.stringAtoms, d ∈ tables_1) d hd)
  rw [show entryFrame m #[(.int p0), (.int p1), (.int p2), (.int p3), (.int p4), (.int p5)] maxLocals = (mkF m 0 #[.val (.int p0), .val (.int p1), .val (.int p2), .val (.int p3), .val (.int p4), .val (.int p5), .unset, .unset, .unset, .unset, .unset, .unset, .unset, .unset, .unset, .unset, .unset, .unset, .unset, .unset, .unset, .unset, .unset, .unset] []) from by first | (simp [entryFrame, mkF, argsToLocals, Value.category, maxLocals]; done) | rfl]
  obtain ⟨ln, hln, eln⟩ : ∃ n : Nat, n ≤ 7 ∧ (p1 &&& (7 : Int32)) = Int32.ofNat n := own_mask _ 7
  obtain ⟨c1, hc1, ec1⟩ : ∃ n : Nat, n ≤ 7 ∧ (p0 &&& (7 : Int32)) = Int32.ofNat n := own_mask _ 7
  obtain ⟨n, hnn⟩ : ∃ n, n = c1 % 6 := ⟨_, rfl⟩
  have en : Int32.ofNat c1 - (Int32.ofNat c1 / (6 : Int32)) * (6 : Int32) = Int32.ofNat n := by rw [hnn]; exact own_remN (a := c1) (b := 6) (by omega) (by decide)
  have hn : n ≤ 5 := by omega
  refine own_Go.of (S' := (T0.setTop (mkF m 20 #[.val (.int p0), .val (.int p1), .val (.int p2), .val (.int p3), .val (.int p4), .val (.int p5), .val (.int (Int32.ofNat ln)), .val (.int (Int32.ofNat n)), .unset, .unset, .unset, .unset, .unset, .unset, .unset, .unset, .unset, .unset, .unset, .unset, .unset, .unset, .unset, .unset] [(.int (((p0.toUInt32 >>> ((3 : Int32) &&& 31).toUInt32).toInt32) &&& (1 : Int32)))]))) (fun t kt => ?_) ?_
  · show Steps p.tables e below (T0.setTop (mkF m 0 #[.val (.int p0), .val (.int p1), .val (.int p2), .val (.int p3), .val (.int p4), .val (.int p5), .unset, .unset, .unset, .unset, .unset, .unset, .unset, .unset, .unset, .unset, .unset, .unset, .unset, .unset, .unset, .unset, .unset, .unset] [])) _
    refine XS.iloadN X0.here hx rfl (own_hb hby at_0) rfl ?_
    refine XS.bipush X0.here hx rfl (own_hb hby at_1) ?_
    refine XS.iand X0.here hx rfl (own_hb hby at_3) rfl ?_
    show Steps p.tables e below (T0.setTop (mkF m 4 #[.val (.int p0), .val (.int p1), .val (.int p2), .val (.int p3), .val (.int p4), .val (.int p5), .unset, .unset, .unset, .unset, .unset, .unset, .unset, .unset, .unset, .unset, .unset, .unset, .unset, .unset, .unset, .unset, .unset, .unset] [(.int (p1 &&& (7 : Int32)))])) _
    rw [eln]
    refine XS.istore X0.here hx rfl (own_hb hby at_4) rfl (l' := #[.val (.int p0), .val (.int p1), .val (.int p2), .val (.int p3), .val (.int p4), .val (.int p5), .val (.int (Int32.ofNat ln)), .unset, .unset, .unset, .unset, .unset, .unset, .unset, .unset, .unset, .unset, .unset, .unset, .unset, .unset, .unset, .unset, .unset]) rfl ?_
    show Steps p.tables e below (T0.setTop (mkF m 6 #[.val (.int p0), .val (.int p1), .val (.int p2), .val (.int p3), .val (.int p4), .val (.int p5), .val (.int (Int32.ofNat ln)), .unset, .unset, .unset, .unset, .unset, .unset, .unset, .unset, .unset, .unset, .unset, .unset, .unset, .unset, .unset, .unset, .unset] [])) _
    refine XS.iloadN X0.here hx rfl (own_hb hby at_6) rfl ?_
    refine XS.bipush X0.here hx rfl (own_hb hby at_7) ?_
    refine XS.iand X0.here hx rfl (own_hb hby at_9) rfl ?_
    show Steps p.tables e below (T0.setTop (mkF m 10 #[.val (.int p0), .val (.int p1), .val (.int p2), .val (.int p3), .val (.int p4), .val (.int p5), .val (.int (Int32.ofNat ln)), .unset, .unset, .unset, .unset, .unset, .unset, .unset, .unset, .unset, .unset, .unset, .unset, .unset, .unset, .unset, .unset, .unset] [(.int (p0 &&& (7 : Int32)))])) _
    rw [ec1]
    refine XS.bipush X0.here hx rfl (own_hb hby at_10) ?_
    show Steps p.tables e below (T0.setTop (mkF m 12 #[.val (.int p0), .val (.int p1), .val (.int p2), .val (.int p3), .val (.int p4), .val (.int p5), .val (.int (Int32.ofNat ln)), .unset, .unset, .unset, .unset, .unset, .unset, .unset, .unset, .unset, .unset, .unset, .unset, .unset, .unset, .unset, .unset, .unset] [(.int (6 : Int32)), (.int (Int32.ofNat c1))])) _
    refine XS.irem X0.here hx rfl (own_hb hby at_12) rfl (by decide) ?_
    show Steps p.tables e below (T0.setTop (mkF m 13 #[.val (.int p0), .val (.int p1), .val (.int p2), .val (.int p3), .val (.int p4), .val (.int p5), .val (.int (Int32.ofNat ln)), .unset, .unset, .unset, .unset, .unset, .unset, .unset, .unset, .unset, .unset, .unset, .unset, .unset, .unset, .unset, .unset, .unset] [(.int ((Int32.ofNat c1) - ((Int32.ofNat c1) / (6 : Int32)) * (6 : Int32)))])) _
    rw [en]
    refine XS.istore X0.here hx rfl (own_hb hby at_13) rfl (l' := #[.val (.int p0), .val (.int p1), .val (.int p2), .val (.int p3), .val (.int p4), .val (.int p5), .val (.int (Int32.ofNat ln)), .val (.int (Int32.ofNat n)), .unset, .unset, .unset, .unset, .unset, .unset, .unset, .unset, .unset, .unset, .unset, .unset, .unset, .unset, .unset, .unset]) rfl ?_
    refine XS.iloadN X0.here hx rfl (own_hb hby at_15) rfl ?_
    refine XS.iconst X0.here hx rfl (own_hb hby at_16) ?_
    show Steps p.tables e below (T0.setTop (mkF m 17 #[.val (.int p0), .val (.int p1), .val (.int p2), .val (.int p3), .val (.int p4), .val (.int p5), .val (.int (Int32.ofNat ln)), .val (.int (Int32.ofNat n)), .unset, .unset, .unset, .unset, .unset, .unset, .unset, .unset, .unset, .unset, .unset, .unset, .unset, .unset, .unset, .unset] [(.int (3 : Int32)), (.int p0)])) _
    refine XS.iushr X0.here hx rfl (own_hb hby at_17) rfl ?_
    refine XS.iconst X0.here hx rfl (own_hb hby at_18) ?_
    refine XS.iand X0.here hx rfl (own_hb hby at_19) rfl ?_
    exact kt
  obtain ⟨v1691, hd1693, st1692⟩ : ∃ v1691 : Int32, ((v1691 = (0 : Int32) ∧ (((p0.toUInt32 >>> ((3 : Int32) &&& 31).toUInt32).toInt32) &&& (1 : Int32)) = (0 : Int32)) ∨ (v1691 = (1 : Int32) ∧ ¬ ((((p0.toUInt32 >>> ((3 : Int32) &&& 31).toUInt32).toInt32) &&& (1 : Int32)) = (0 : Int32)))) ∧ ∀ t, Steps p.tables e below (T0.setTop (mkF m 28 #[.val (.int p0), .val (.int p1), .val (.int p2), .val (.int p3), .val (.int p4), .val (.int p5), .val (.int (Int32.ofNat ln)), .val (.int (Int32.ofNat n)), .unset, .unset, .unset, .unset, .unset, .unset, .unset, .unset, .unset, .unset, .unset, .unset, .unset, .unset, .unset, .unset] [(.int v1691)])) t → Steps p.tables e below (T0.setTop (mkF m 20 #[.val (.int p0), .val (.int p1), .val (.int p2), .val (.int p3), .val (.int p4), .val (.int p5), .val (.int (Int32.ofNat ln)), .val (.int (Int32.ofNat n)), .unset, .unset, .unset, .unset, .unset, .unset, .unset, .unset, .unset, .unset, .unset, .unset, .unset, .unset, .unset, .unset] [(.int (((p0.toUInt32 >>> ((3 : Int32) &&& 31).toUInt32).toInt32) &&& (1 : Int32)))])) t := by
    by_cases hc20_1690 : (((p0.toUInt32 >>> ((3 : Int32) &&& 31).toUInt32).toInt32) &&& (1 : Int32)) = (0 : Int32)
    · skip
      refine ⟨(0 : Int32), (Or.inl (⟨rfl, hc20_1690⟩)), fun t kt => ?_⟩
      show Steps p.tables e below (T0.setTop (mkF m 20 #[.val (.int p0), .val (.int p1), .val (.int p2), .val (.int p3), .val (.int p4), .val (.int p5), .val (.int (Int32.ofNat ln)), .val (.int (Int32.ofNat n)), .unset, .unset, .unset, .unset, .unset, .unset, .unset, .unset, .unset, .unset, .unset, .unset, .unset, .unset, .unset, .unset] [(.int (((p0.toUInt32 >>> ((3 : Int32) &&& 31).toUInt32).toInt32) &&& (1 : Int32)))])) _
      refine XS.ifYes X0.here hx rfl (pc0 := 20) (pc' := 27) rfl (own_hb hby at_20) rfl ((if0 _ _).trans (teq hc20_1690).1) (by decide) (by decide) ?_
      refine XS.iconst X0.here hx rfl (own_hb hby at_27) ?_
      exact kt
    · skip
      refine ⟨(1 : Int32), (Or.inr (⟨rfl, hc20_1690⟩)), fun t kt => ?_⟩
      show Steps p.tables e below (T0.setTop (mkF m 20 #[.val (.int p0), .val (.int p1), .val (.int p2), .val (.int p3), .val (.int p4), .val (.int p5), .val (.int (Int32.ofNat ln)), .val (.int (Int32.ofNat n)), .unset, .unset, .unset, .unset, .unset, .unset, .unset, .unset, .unset, .unset, .unset, .unset, .unset, .unset, .unset, .unset] [(.int (((p0.toUInt32 >>> ((3 : Int32) &&& 31).toUInt32).toInt32) &&& (1 : Int32)))])) _
      refine XS.ifNo X0.here hx rfl (own_hb hby at_20) rfl ((if0 _ _).trans (feq hc20_1690).1) ?_
      refine XS.iconst X0.here hx rfl (own_hb hby at_23) ?_
      refine XS.goto X0.here hx rfl (pc0 := 24) (pc' := 28) rfl (own_hb hby at_24) (by decide) (by decide) ?_
      exact kt
  refine own_Go.of (S' := (T0.setTop (mkF m 28 #[.val (.int p0), .val (.int p1), .val (.int p2), .val (.int p3), .val (.int p4), .val (.int p5), .val (.int (Int32.ofNat ln)), .val (.int (Int32.ofNat n)), .unset, .unset, .unset, .unset, .unset, .unset, .unset, .unset, .unset, .unset, .unset, .unset, .unset, .unset, .unset, .unset] [(.int v1691)]))) st1692 ?_
  have hbbv1691 : v1691 = 0 ∨ v1691 = 1 := by rcases hd1693 with ⟨q, -⟩ | ⟨q, -⟩; exact Or.inl q; exact Or.inr q
  refine own_Go.of (S' := (T0.setTop (mkF m 35 #[.val (.int p0), .val (.int p1), .val (.int p2), .val (.int p3), .val (.int p4), .val (.int p5), .val (.int (Int32.ofNat ln)), .val (.int (Int32.ofNat n)), .val (.int v1691), .unset, .unset, .unset, .unset, .unset, .unset, .unset, .unset, .unset, .unset, .unset, .unset, .unset, .unset, .unset] [(.int (((p0.toUInt32 >>> ((4 : Int32) &&& 31).toUInt32).toInt32) &&& (1 : Int32)))]))) (fun t kt => ?_) ?_
  · show Steps p.tables e below (T0.setTop (mkF m 28 #[.val (.int p0), .val (.int p1), .val (.int p2), .val (.int p3), .val (.int p4), .val (.int p5), .val (.int (Int32.ofNat ln)), .val (.int (Int32.ofNat n)), .unset, .unset, .unset, .unset, .unset, .unset, .unset, .unset, .unset, .unset, .unset, .unset, .unset, .unset, .unset, .unset] [(.int v1691)])) _
    refine XS.istore X0.here hx rfl (own_hb hby at_28) rfl (l' := #[.val (.int p0), .val (.int p1), .val (.int p2), .val (.int p3), .val (.int p4), .val (.int p5), .val (.int (Int32.ofNat ln)), .val (.int (Int32.ofNat n)), .val (.int v1691), .unset, .unset, .unset, .unset, .unset, .unset, .unset, .unset, .unset, .unset, .unset, .unset, .unset, .unset, .unset]) rfl ?_
    refine XS.iloadN X0.here hx rfl (own_hb hby at_30) rfl ?_
    refine XS.iconst X0.here hx rfl (own_hb hby at_31) ?_
    refine XS.iushr X0.here hx rfl (own_hb hby at_32) rfl ?_
    show Steps p.tables e below (T0.setTop (mkF m 33 #[.val (.int p0), .val (.int p1), .val (.int p2), .val (.int p3), .val (.int p4), .val (.int p5), .val (.int (Int32.ofNat ln)), .val (.int (Int32.ofNat n)), .val (.int v1691), .unset, .unset, .unset, .unset, .unset, .unset, .unset, .unset, .unset, .unset, .unset, .unset, .unset, .unset, .unset] [(.int ((p0.toUInt32 >>> ((4 : Int32) &&& 31).toUInt32).toInt32))])) _
    refine XS.iconst X0.here hx rfl (own_hb hby at_33) ?_
    refine XS.iand X0.here hx rfl (own_hb hby at_34) rfl ?_
    exact kt
  obtain ⟨v1695, hd1697, st1696⟩ : ∃ v1695 : Int32, ((v1695 = (0 : Int32) ∧ (((p0.toUInt32 >>> ((4 : Int32) &&& 31).toUInt32).toInt32) &&& (1 : Int32)) = (0 : Int32)) ∨ (v1695 = (1 : Int32) ∧ ¬ ((((p0.toUInt32 >>> ((4 : Int32) &&& 31).toUInt32).toInt32) &&& (1 : Int32)) = (0 : Int32)))) ∧ ∀ t, Steps p.tables e below (T0.setTop (mkF m 43 #[.val (.int p0), .val (.int p1), .val (.int p2), .val (.int p3), .val (.int p4), .val (.int p5), .val (.int (Int32.ofNat ln)), .val (.int (Int32.ofNat n)), .val (.int v1691), .unset, .unset, .unset, .unset, .unset, .unset, .unset, .unset, .unset, .unset, .unset, .unset, .unset, .unset, .unset] [(.int v1695)])) t → Steps p.tables e below (T0.setTop (mkF m 35 #[.val (.int p0), .val (.int p1), .val (.int p2), .val (.int p3), .val (.int p4), .val (.int p5), .val (.int (Int32.ofNat ln)), .val (.int (Int32.ofNat n)), .val (.int v1691), .unset, .unset, .unset, .unset, .unset, .unset, .unset, .unset, .unset, .unset, .unset, .unset, .unset, .unset, .unset] [(.int (((p0.toUInt32 >>> ((4 : Int32) &&& 31).toUInt32).toInt32) &&& (1 : Int32)))])) t := by
    by_cases hc35_1694 : (((p0.toUInt32 >>> ((4 : Int32) &&& 31).toUInt32).toInt32) &&& (1 : Int32)) = (0 : Int32)
    · skip
      refine ⟨(0 : Int32), (Or.inl (⟨rfl, hc35_1694⟩)), fun t kt => ?_⟩
      show Steps p.tables e below (T0.setTop (mkF m 35 #[.val (.int p0), .val (.int p1), .val (.int p2), .val (.int p3), .val (.int p4), .val (.int p5), .val (.int (Int32.ofNat ln)), .val (.int (Int32.ofNat n)), .val (.int v1691), .unset, .unset, .unset, .unset, .unset, .unset, .unset, .unset, .unset, .unset, .unset, .unset, .unset, .unset, .unset] [(.int (((p0.toUInt32 >>> ((4 : Int32) &&& 31).toUInt32).toInt32) &&& (1 : Int32)))])) _
      refine XS.ifYes X0.here hx rfl (pc0 := 35) (pc' := 42) rfl (own_hb hby at_35) rfl ((if0 _ _).trans (teq hc35_1694).1) (by decide) (by decide) ?_
      refine XS.iconst X0.here hx rfl (own_hb hby at_42) ?_
      exact kt
    · skip
      refine ⟨(1 : Int32), (Or.inr (⟨rfl, hc35_1694⟩)), fun t kt => ?_⟩
      show Steps p.tables e below (T0.setTop (mkF m 35 #[.val (.int p0), .val (.int p1), .val (.int p2), .val (.int p3), .val (.int p4), .val (.int p5), .val (.int (Int32.ofNat ln)), .val (.int (Int32.ofNat n)), .val (.int v1691), .unset, .unset, .unset, .unset, .unset, .unset, .unset, .unset, .unset, .unset, .unset, .unset, .unset, .unset, .unset] [(.int (((p0.toUInt32 >>> ((4 : Int32) &&& 31).toUInt32).toInt32) &&& (1 : Int32)))])) _
      refine XS.ifNo X0.here hx rfl (own_hb hby at_35) rfl ((if0 _ _).trans (feq hc35_1694).1) ?_
      refine XS.iconst X0.here hx rfl (own_hb hby at_38) ?_
      refine XS.goto X0.here hx rfl (pc0 := 39) (pc' := 43) rfl (own_hb hby at_39) (by decide) (by decide) ?_
      exact kt
  refine own_Go.of (S' := (T0.setTop (mkF m 43 #[.val (.int p0), .val (.int p1), .val (.int p2), .val (.int p3), .val (.int p4), .val (.int p5), .val (.int (Int32.ofNat ln)), .val (.int (Int32.ofNat n)), .val (.int v1691), .unset, .unset, .unset, .unset, .unset, .unset, .unset, .unset, .unset, .unset, .unset, .unset, .unset, .unset, .unset] [(.int v1695)]))) st1696 ?_
  have hbbv1695 : v1695 = 0 ∨ v1695 = 1 := by rcases hd1697 with ⟨q, -⟩ | ⟨q, -⟩; exact Or.inl q; exact Or.inr q
  refine own_Go.of (S' := (T0.setTop (mkF m 50 #[.val (.int p0), .val (.int p1), .val (.int p2), .val (.int p3), .val (.int p4), .val (.int p5), .val (.int (Int32.ofNat ln)), .val (.int (Int32.ofNat n)), .val (.int v1691), .val (.int v1695), .unset, .unset, .unset, .unset, .unset, .unset, .unset, .unset, .unset, .unset, .unset, .unset, .unset, .unset] [(.int (((p0.toUInt32 >>> ((5 : Int32) &&& 31).toUInt32).toInt32) &&& (1 : Int32)))]))) (fun t kt => ?_) ?_
  · show Steps p.tables e below (T0.setTop (mkF m 43 #[.val (.int p0), .val (.int p1), .val (.int p2), .val (.int p3), .val (.int p4), .val (.int p5), .val (.int (Int32.ofNat ln)), .val (.int (Int32.ofNat n)), .val (.int v1691), .unset, .unset, .unset, .unset, .unset, .unset, .unset, .unset, .unset, .unset, .unset, .unset, .unset, .unset, .unset] [(.int v1695)])) _
    refine XS.istore X0.here hx rfl (own_hb hby at_43) rfl (l' := #[.val (.int p0), .val (.int p1), .val (.int p2), .val (.int p3), .val (.int p4), .val (.int p5), .val (.int (Int32.ofNat ln)), .val (.int (Int32.ofNat n)), .val (.int v1691), .val (.int v1695), .unset, .unset, .unset, .unset, .unset, .unset, .unset, .unset, .unset, .unset, .unset, .unset, .unset, .unset]) rfl ?_
    refine XS.iloadN X0.here hx rfl (own_hb hby at_45) rfl ?_
    refine XS.iconst X0.here hx rfl (own_hb hby at_46) ?_
    refine XS.iushr X0.here hx rfl (own_hb hby at_47) rfl ?_
    show Steps p.tables e below (T0.setTop (mkF m 48 #[.val (.int p0), .val (.int p1), .val (.int p2), .val (.int p3), .val (.int p4), .val (.int p5), .val (.int (Int32.ofNat ln)), .val (.int (Int32.ofNat n)), .val (.int v1691), .val (.int v1695), .unset, .unset, .unset, .unset, .unset, .unset, .unset, .unset, .unset, .unset, .unset, .unset, .unset, .unset] [(.int ((p0.toUInt32 >>> ((5 : Int32) &&& 31).toUInt32).toInt32))])) _
    refine XS.iconst X0.here hx rfl (own_hb hby at_48) ?_
    refine XS.iand X0.here hx rfl (own_hb hby at_49) rfl ?_
    exact kt
  obtain ⟨v1699, hd1701, st1700⟩ : ∃ v1699 : Int32, ((v1699 = (0 : Int32) ∧ (((p0.toUInt32 >>> ((5 : Int32) &&& 31).toUInt32).toInt32) &&& (1 : Int32)) = (0 : Int32)) ∨ (v1699 = (1 : Int32) ∧ ¬ ((((p0.toUInt32 >>> ((5 : Int32) &&& 31).toUInt32).toInt32) &&& (1 : Int32)) = (0 : Int32)))) ∧ ∀ t, Steps p.tables e below (T0.setTop (mkF m 58 #[.val (.int p0), .val (.int p1), .val (.int p2), .val (.int p3), .val (.int p4), .val (.int p5), .val (.int (Int32.ofNat ln)), .val (.int (Int32.ofNat n)), .val (.int v1691), .val (.int v1695), .unset, .unset, .unset, .unset, .unset, .unset, .unset, .unset, .unset, .unset, .unset, .unset, .unset, .unset] [(.int v1699)])) t → Steps p.tables e below (T0.setTop (mkF m 50 #[.val (.int p0), .val (.int p1), .val (.int p2), .val (.int p3), .val (.int p4), .val (.int p5), .val (.int (Int32.ofNat ln)), .val (.int (Int32.ofNat n)), .val (.int v1691), .val (.int v1695), .unset, .unset, .unset, .unset, .unset, .unset, .unset, .unset, .unset, .unset, .unset, .unset, .unset, .unset] [(.int (((p0.toUInt32 >>> ((5 : Int32) &&& 31).toUInt32).toInt32) &&& (1 : Int32)))])) t := by
    by_cases hc50_1698 : (((p0.toUInt32 >>> ((5 : Int32) &&& 31).toUInt32).toInt32) &&& (1 : Int32)) = (0 : Int32)
    · skip
      refine ⟨(0 : Int32), (Or.inl (⟨rfl, hc50_1698⟩)), fun t kt => ?_⟩
      show Steps p.tables e below (T0.setTop (mkF m 50 #[.val (.int p0), .val (.int p1), .val (.int p2), .val (.int p3), .val (.int p4), .val (.int p5), .val (.int (Int32.ofNat ln)), .val (.int (Int32.ofNat n)), .val (.int v1691), .val (.int v1695), .unset, .unset, .unset, .unset, .unset, .unset, .unset, .unset, .unset, .unset, .unset, .unset, .unset, .unset] [(.int (((p0.toUInt32 >>> ((5 : Int32) &&& 31).toUInt32).toInt32) &&& (1 : Int32)))])) _
      refine XS.ifYes X0.here hx rfl (pc0 := 50) (pc' := 57) rfl (own_hb hby at_50) rfl ((if0 _ _).trans (teq hc50_1698).1) (by decide) (by decide) ?_
      refine XS.iconst X0.here hx rfl (own_hb hby at_57) ?_
      exact kt
    · skip
      refine ⟨(1 : Int32), (Or.inr (⟨rfl, hc50_1698⟩)), fun t kt => ?_⟩
      show Steps p.tables e below (T0.setTop (mkF m 50 #[.val (.int p0), .val (.int p1), .val (.int p2), .val (.int p3), .val (.int p4), .val (.int p5), .val (.int (Int32.ofNat ln)), .val (.int (Int32.ofNat n)), .val (.int v1691), .val (.int v1695), .unset, .unset, .unset, .unset, .unset, .unset, .unset, .unset, .unset, .unset, .unset, .unset, .unset, .unset] [(.int (((p0.toUInt32 >>> ((5 : Int32) &&& 31).toUInt32).toInt32) &&& (1 : Int32)))])) _
      refine XS.ifNo X0.here hx rfl (own_hb hby at_50) rfl ((if0 _ _).trans (feq hc50_1698).1) ?_
      refine XS.iconst X0.here hx rfl (own_hb hby at_53) ?_
      refine XS.goto X0.here hx rfl (pc0 := 54) (pc' := 58) rfl (own_hb hby at_54) (by decide) (by decide) ?_
      exact kt
  refine own_Go.of (S' := (T0.setTop (mkF m 58 #[.val (.int p0), .val (.int p1), .val (.int p2), .val (.int p3), .val (.int p4), .val (.int p5), .val (.int (Int32.ofNat ln)), .val (.int (Int32.ofNat n)), .val (.int v1691), .val (.int v1695), .unset, .unset, .unset, .unset, .unset, .unset, .unset, .unset, .unset, .unset, .unset, .unset, .unset, .unset] [(.int v1699)]))) st1700 ?_
  have hbbv1699 : v1699 = 0 ∨ v1699 = 1 := by rcases hd1701 with ⟨q, -⟩ | ⟨q, -⟩; exact Or.inl q; exact Or.inr q
  refine own_Go.of (S' := (T0.setTop (mkF m 66 #[.val (.int p0), .val (.int p1), .val (.int p2), .val (.int p3), .val (.int p4), .val (.int p5), .val (.int (Int32.ofNat ln)), .val (.int (Int32.ofNat n)), .val (.int v1691), .val (.int v1695), .val (.int v1699), .unset, .unset, .unset, .unset, .unset, .unset, .unset, .unset, .unset, .unset, .unset, .unset, .unset] [(.int (((p0.toUInt32 >>> ((6 : Int32) &&& 31).toUInt32).toInt32) &&& (1 : Int32)))]))) (fun t kt => ?_) ?_
  · show Steps p.tables e below (T0.setTop (mkF m 58 #[.val (.int p0), .val (.int p1), .val (.int p2), .val (.int p3), .val (.int p4), .val (.int p5), .val (.int (Int32.ofNat ln)), .val (.int (Int32.ofNat n)), .val (.int v1691), .val (.int v1695), .unset, .unset, .unset, .unset, .unset, .unset, .unset, .unset, .unset, .unset, .unset, .unset, .unset, .unset] [(.int v1699)])) _
    refine XS.istore X0.here hx rfl (own_hb hby at_58) rfl (l' := #[.val (.int p0), .val (.int p1), .val (.int p2), .val (.int p3), .val (.int p4), .val (.int p5), .val (.int (Int32.ofNat ln)), .val (.int (Int32.ofNat n)), .val (.int v1691), .val (.int v1695), .val (.int v1699), .unset, .unset, .unset, .unset, .unset, .unset, .unset, .unset, .unset, .unset, .unset, .unset, .unset]) rfl ?_
    refine XS.iloadN X0.here hx rfl (own_hb hby at_60) rfl ?_
    refine XS.bipush X0.here hx rfl (own_hb hby at_61) ?_
    refine XS.iushr X0.here hx rfl (own_hb hby at_63) rfl ?_
    show Steps p.tables e below (T0.setTop (mkF m 64 #[.val (.int p0), .val (.int p1), .val (.int p2), .val (.int p3), .val (.int p4), .val (.int p5), .val (.int (Int32.ofNat ln)), .val (.int (Int32.ofNat n)), .val (.int v1691), .val (.int v1695), .val (.int v1699), .unset, .unset, .unset, .unset, .unset, .unset, .unset, .unset, .unset, .unset, .unset, .unset, .unset] [(.int ((p0.toUInt32 >>> ((6 : Int32) &&& 31).toUInt32).toInt32))])) _
    refine XS.iconst X0.here hx rfl (own_hb hby at_64) ?_
    refine XS.iand X0.here hx rfl (own_hb hby at_65) rfl ?_
    exact kt
  obtain ⟨v1703, hd1705, st1704⟩ : ∃ v1703 : Int32, ((v1703 = (0 : Int32) ∧ (((p0.toUInt32 >>> ((6 : Int32) &&& 31).toUInt32).toInt32) &&& (1 : Int32)) = (0 : Int32)) ∨ (v1703 = (1 : Int32) ∧ ¬ ((((p0.toUInt32 >>> ((6 : Int32) &&& 31).toUInt32).toInt32) &&& (1 : Int32)) = (0 : Int32)))) ∧ ∀ t, Steps p.tables e below (T0.setTop (mkF m 74 #[.val (.int p0), .val (.int p1), .val (.int p2), .val (.int p3), .val (.int p4), .val (.int p5), .val (.int (Int32.ofNat ln)), .val (.int (Int32.ofNat n)), .val (.int v1691), .val (.int v1695), .val (.int v1699), .unset, .unset, .unset, .unset, .unset, .unset, .unset, .unset, .unset, .unset, .unset, .unset, .unset] [(.int v1703)])) t → Steps p.tables e below (T0.setTop (mkF m 66 #[.val (.int p0), .val (.int p1), .val (.int p2), .val (.int p3), .val (.int p4), .val (.int p5), .val (.int (Int32.ofNat ln)), .val (.int (Int32.ofNat n)), .val (.int v1691), .val (.int v1695), .val (.int v1699), .unset, .unset, .unset, .unset, .unset, .unset, .unset, .unset, .unset, .unset, .unset, .unset, .unset] [(.int (((p0.toUInt32 >>> ((6 : Int32) &&& 31).toUInt32).toInt32) &&& (1 : Int32)))])) t := by
    by_cases hc66_1702 : (((p0.toUInt32 >>> ((6 : Int32) &&& 31).toUInt32).toInt32) &&& (1 : Int32)) = (0 : Int32)
    · skip
      refine ⟨(0 : Int32), (Or.inl (⟨rfl, hc66_1702⟩)), fun t kt => ?_⟩
      show Steps p.tables e below (T0.setTop (mkF m 66 #[.val (.int p0), .val (.int p1), .val (.int p2), .val (.int p3), .val (.int p4), .val (.int p5), .val (.int (Int32.ofNat ln)), .val (.int (Int32.ofNat n)), .val (.int v1691), .val (.int v1695), .val (.int v1699), .unset, .unset, .unset, .unset, .unset, .unset, .unset, .unset, .unset, .unset, .unset, .unset, .unset] [(.int (((p0.toUInt32 >>> ((6 : Int32) &&& 31).toUInt32).toInt32) &&& (1 : Int32)))])) _
      refine XS.ifYes X0.here hx rfl (pc0 := 66) (pc' := 73) rfl (own_hb hby at_66) rfl ((if0 _ _).trans (teq hc66_1702).1) (by decide) (by decide) ?_
      refine XS.iconst X0.here hx rfl (own_hb hby at_73) ?_
      exact kt
    · skip
      refine ⟨(1 : Int32), (Or.inr (⟨rfl, hc66_1702⟩)), fun t kt => ?_⟩
      show Steps p.tables e below (T0.setTop (mkF m 66 #[.val (.int p0), .val (.int p1), .val (.int p2), .val (.int p3), .val (.int p4), .val (.int p5), .val (.int (Int32.ofNat ln)), .val (.int (Int32.ofNat n)), .val (.int v1691), .val (.int v1695), .val (.int v1699), .unset, .unset, .unset, .unset, .unset, .unset, .unset, .unset, .unset, .unset, .unset, .unset, .unset] [(.int (((p0.toUInt32 >>> ((6 : Int32) &&& 31).toUInt32).toInt32) &&& (1 : Int32)))])) _
      refine XS.ifNo X0.here hx rfl (own_hb hby at_66) rfl ((if0 _ _).trans (feq hc66_1702).1) ?_
      refine XS.iconst X0.here hx rfl (own_hb hby at_69) ?_
      refine XS.goto X0.here hx rfl (pc0 := 70) (pc' := 74) rfl (own_hb hby at_70) (by decide) (by decide) ?_
      exact kt
  refine own_Go.of (S' := (T0.setTop (mkF m 74 #[.val (.int p0), .val (.int p1), .val (.int p2), .val (.int p3), .val (.int p4), .val (.int p5), .val (.int (Int32.ofNat ln)), .val (.int (Int32.ofNat n)), .val (.int v1691), .val (.int v1695), .val (.int v1699), .unset, .unset, .unset, .unset, .unset, .unset, .unset, .unset, .unset, .unset, .unset, .unset, .unset] [(.int v1703)]))) st1704 ?_
  have hbbv1703 : v1703 = 0 ∨ v1703 = 1 := by rcases hd1705 with ⟨q, -⟩ | ⟨q, -⟩; exact Or.inl q; exact Or.inr q
  refine own_Go.of (S' := (T0.setTop (mkF m 82 #[.val (.int p0), .val (.int p1), .val (.int p2), .val (.int p3), .val (.int p4), .val (.int p5), .val (.int (Int32.ofNat ln)), .val (.int (Int32.ofNat n)), .val (.int v1691), .val (.int v1695), .val (.int v1699), .val (.int v1703), .unset, .unset, .unset, .unset, .unset, .unset, .unset, .unset, .unset, .unset, .unset, .unset] [(.int (((p0.toUInt32 >>> ((7 : Int32) &&& 31).toUInt32).toInt32) &&& (1 : Int32)))]))) (fun t kt => ?_) ?_
  · show Steps p.tables e below (T0.setTop (mkF m 74 #[.val (.int p0), .val (.int p1), .val (.int p2), .val (.int p3), .val (.int p4), .val (.int p5), .val (.int (Int32.ofNat ln)), .val (.int (Int32.ofNat n)), .val (.int v1691), .val (.int v1695), .val (.int v1699), .unset, .unset, .unset, .unset, .unset, .unset, .unset, .unset, .unset, .unset, .unset, .unset, .unset] [(.int v1703)])) _
    refine XS.istore X0.here hx rfl (own_hb hby at_74) rfl (l' := #[.val (.int p0), .val (.int p1), .val (.int p2), .val (.int p3), .val (.int p4), .val (.int p5), .val (.int (Int32.ofNat ln)), .val (.int (Int32.ofNat n)), .val (.int v1691), .val (.int v1695), .val (.int v1699), .val (.int v1703), .unset, .unset, .unset, .unset, .unset, .unset, .unset, .unset, .unset, .unset, .unset, .unset]) rfl ?_
    refine XS.iloadN X0.here hx rfl (own_hb hby at_76) rfl ?_
    refine XS.bipush X0.here hx rfl (own_hb hby at_77) ?_
    refine XS.iushr X0.here hx rfl (own_hb hby at_79) rfl ?_
    show Steps p.tables e below (T0.setTop (mkF m 80 #[.val (.int p0), .val (.int p1), .val (.int p2), .val (.int p3), .val (.int p4), .val (.int p5), .val (.int (Int32.ofNat ln)), .val (.int (Int32.ofNat n)), .val (.int v1691), .val (.int v1695), .val (.int v1699), .val (.int v1703), .unset, .unset, .unset, .unset, .unset, .unset, .unset, .unset, .unset, .unset, .unset, .unset] [(.int ((p0.toUInt32 >>> ((7 : Int32) &&& 31).toUInt32).toInt32))])) _
    refine XS.iconst X0.here hx rfl (own_hb hby at_80) ?_
    refine XS.iand X0.here hx rfl (own_hb hby at_81) rfl ?_
    exact kt
  obtain ⟨v1707, hd1709, st1708⟩ : ∃ v1707 : Int32, ((v1707 = (0 : Int32) ∧ (((p0.toUInt32 >>> ((7 : Int32) &&& 31).toUInt32).toInt32) &&& (1 : Int32)) = (0 : Int32)) ∨ (v1707 = (1 : Int32) ∧ ¬ ((((p0.toUInt32 >>> ((7 : Int32) &&& 31).toUInt32).toInt32) &&& (1 : Int32)) = (0 : Int32)))) ∧ ∀ t, Steps p.tables e below (T0.setTop (mkF m 90 #[.val (.int p0), .val (.int p1), .val (.int p2), .val (.int p3), .val (.int p4), .val (.int p5), .val (.int (Int32.ofNat ln)), .val (.int (Int32.ofNat n)), .val (.int v1691), .val (.int v1695), .val (.int v1699), .val (.int v1703), .unset, .unset, .unset, .unset, .unset, .unset, .unset, .unset, .unset, .unset, .unset, .unset] [(.int v1707)])) t → Steps p.tables e below (T0.setTop (mkF m 82 #[.val (.int p0), .val (.int p1), .val (.int p2), .val (.int p3), .val (.int p4), .val (.int p5), .val (.int (Int32.ofNat ln)), .val (.int (Int32.ofNat n)), .val (.int v1691), .val (.int v1695), .val (.int v1699), .val (.int v1703), .unset, .unset, .unset, .unset, .unset, .unset, .unset, .unset, .unset, .unset, .unset, .unset] [(.int (((p0.toUInt32 >>> ((7 : Int32) &&& 31).toUInt32).toInt32) &&& (1 : Int32)))])) t := by
    by_cases hc82_1706 : (((p0.toUInt32 >>> ((7 : Int32) &&& 31).toUInt32).toInt32) &&& (1 : Int32)) = (0 : Int32)
    · skip
      refine ⟨(0 : Int32), (Or.inl (⟨rfl, hc82_1706⟩)), fun t kt => ?_⟩
      show Steps p.tables e below (T0.setTop (mkF m 82 #[.val (.int p0), .val (.int p1), .val (.int p2), .val (.int p3), .val (.int p4), .val (.int p5), .val (.int (Int32.ofNat ln)), .val (.int (Int32.ofNat n)), .val (.int v1691), .val (.int v1695), .val (.int v1699), .val (.int v1703), .unset, .unset, .unset, .unset, .unset, .unset, .unset, .unset, .unset, .unset, .unset, .unset] [(.int (((p0.toUInt32 >>> ((7 : Int32) &&& 31).toUInt32).toInt32) &&& (1 : Int32)))])) _
      refine XS.ifYes X0.here hx rfl (pc0 := 82) (pc' := 89) rfl (own_hb hby at_82) rfl ((if0 _ _).trans (teq hc82_1706).1) (by decide) (by decide) ?_
      refine XS.iconst X0.here hx rfl (own_hb hby at_89) ?_
      exact kt
    · skip
      refine ⟨(1 : Int32), (Or.inr (⟨rfl, hc82_1706⟩)), fun t kt => ?_⟩
      show Steps p.tables e below (T0.setTop (mkF m 82 #[.val (.int p0), .val (.int p1), .val (.int p2), .val (.int p3), .val (.int p4), .val (.int p5), .val (.int (Int32.ofNat ln)), .val (.int (Int32.ofNat n)), .val (.int v1691), .val (.int v1695), .val (.int v1699), .val (.int v1703), .unset, .unset, .unset, .unset, .unset, .unset, .unset, .unset, .unset, .unset, .unset, .unset] [(.int (((p0.toUInt32 >>> ((7 : Int32) &&& 31).toUInt32).toInt32) &&& (1 : Int32)))])) _
      refine XS.ifNo X0.here hx rfl (own_hb hby at_82) rfl ((if0 _ _).trans (feq hc82_1706).1) ?_
      refine XS.iconst X0.here hx rfl (own_hb hby at_85) ?_
      refine XS.goto X0.here hx rfl (pc0 := 86) (pc' := 90) rfl (own_hb hby at_86) (by decide) (by decide) ?_
      exact kt
  refine own_Go.of (S' := (T0.setTop (mkF m 90 #[.val (.int p0), .val (.int p1), .val (.int p2), .val (.int p3), .val (.int p4), .val (.int p5), .val (.int (Int32.ofNat ln)), .val (.int (Int32.ofNat n)), .val (.int v1691), .val (.int v1695), .val (.int v1699), .val (.int v1703), .unset, .unset, .unset, .unset, .unset, .unset, .unset, .unset, .unset, .unset, .unset, .unset] [(.int v1707)]))) st1708 ?_
  have hbbv1707 : v1707 = 0 ∨ v1707 = 1 := by rcases hd1709 with ⟨q, -⟩ | ⟨q, -⟩; exact Or.inl q; exact Or.inr q
  refine own_Go.of (S' := (T0.setTop (mkF m 98 #[.val (.int p0), .val (.int p1), .val (.int p2), .val (.int p3), .val (.int p4), .val (.int p5), .val (.int (Int32.ofNat ln)), .val (.int (Int32.ofNat n)), .val (.int v1691), .val (.int v1695), .val (.int v1699), .val (.int v1703), .val (.int v1707), .unset, .unset, .unset, .unset, .unset, .unset, .unset, .unset, .unset, .unset, .unset] [(.int (((p0.toUInt32 >>> ((8 : Int32) &&& 31).toUInt32).toInt32) &&& (1 : Int32)))]))) (fun t kt => ?_) ?_
  · show Steps p.tables e below (T0.setTop (mkF m 90 #[.val (.int p0), .val (.int p1), .val (.int p2), .val (.int p3), .val (.int p4), .val (.int p5), .val (.int (Int32.ofNat ln)), .val (.int (Int32.ofNat n)), .val (.int v1691), .val (.int v1695), .val (.int v1699), .val (.int v1703), .unset, .unset, .unset, .unset, .unset, .unset, .unset, .unset, .unset, .unset, .unset, .unset] [(.int v1707)])) _
    refine XS.istore X0.here hx rfl (own_hb hby at_90) rfl (l' := #[.val (.int p0), .val (.int p1), .val (.int p2), .val (.int p3), .val (.int p4), .val (.int p5), .val (.int (Int32.ofNat ln)), .val (.int (Int32.ofNat n)), .val (.int v1691), .val (.int v1695), .val (.int v1699), .val (.int v1703), .val (.int v1707), .unset, .unset, .unset, .unset, .unset, .unset, .unset, .unset, .unset, .unset, .unset]) rfl ?_
    refine XS.iloadN X0.here hx rfl (own_hb hby at_92) rfl ?_
    refine XS.bipush X0.here hx rfl (own_hb hby at_93) ?_
    refine XS.iushr X0.here hx rfl (own_hb hby at_95) rfl ?_
    show Steps p.tables e below (T0.setTop (mkF m 96 #[.val (.int p0), .val (.int p1), .val (.int p2), .val (.int p3), .val (.int p4), .val (.int p5), .val (.int (Int32.ofNat ln)), .val (.int (Int32.ofNat n)), .val (.int v1691), .val (.int v1695), .val (.int v1699), .val (.int v1703), .val (.int v1707), .unset, .unset, .unset, .unset, .unset, .unset, .unset, .unset, .unset, .unset, .unset] [(.int ((p0.toUInt32 >>> ((8 : Int32) &&& 31).toUInt32).toInt32))])) _
    refine XS.iconst X0.here hx rfl (own_hb hby at_96) ?_
    refine XS.iand X0.here hx rfl (own_hb hby at_97) rfl ?_
    exact kt
  by_cases hc98_1710 : (((p0.toUInt32 >>> ((8 : Int32) &&& 31).toUInt32).toInt32) &&& (1 : Int32)) = (0 : Int32)
  · skip
    refine own_Go.of (S' := (T0.setTop (mkF m 114 #[.val (.int p0), .val (.int p1), .val (.int p2), .val (.int p3), .val (.int p4), .val (.int p5), .val (.int (Int32.ofNat ln)), .val (.int (Int32.ofNat n)), .val (.int v1691), .val (.int v1695), .val (.int v1699), .val (.int v1703), .val (.int v1707), .val (.int (0 : Int32)), .unset, .unset, .unset, .unset, .unset, .unset, .unset, .unset, .unset, .unset] [(.int (((p0.toUInt32 >>> ((9 : Int32) &&& 31).toUInt32).toInt32) &&& (1 : Int32)))]))) (fun t kt => ?_) ?_
    · show Steps p.tables e below (T0.setTop (mkF m 98 #[.val (.int p0), .val (.int p1), .val (.int p2), .val (.int p3), .val (.int p4), .val (.int p5), .val (.int (Int32.ofNat ln)), .val (.int (Int32.ofNat n)), .val (.int v1691), .val (.int v1695), .val (.int v1699), .val (.int v1703), .val (.int v1707), .unset, .unset, .unset, .unset, .unset, .unset, .unset, .unset, .unset, .unset, .unset] [(.int (((p0.toUInt32 >>> ((8 : Int32) &&& 31).toUInt32).toInt32) &&& (1 : Int32)))])) _
      refine XS.ifYes X0.here hx rfl (pc0 := 98) (pc' := 105) rfl (own_hb hby at_98) rfl ((if0 _ _).trans (teq hc98_1710).1) (by decide) (by decide) ?_
      refine XS.iconst X0.here hx rfl (own_hb hby at_105) ?_
      refine XS.istore X0.here hx rfl (own_hb hby at_106) rfl (l' := #[.val (.int p0), .val (.int p1), .val (.int p2), .val (.int p3), .val (.int p4), .val (.int p5), .val (.int (Int32.ofNat ln)), .val (.int (Int32.ofNat n)), .val (.int v1691), .val (.int v1695), .val (.int v1699), .val (.int v1703), .val (.int v1707), .val (.int (0 : Int32)), .unset, .unset, .unset, .unset, .unset, .unset, .unset, .unset, .unset, .unset]) rfl ?_
      refine XS.iloadN X0.here hx rfl (own_hb hby at_108) rfl ?_
      show Steps p.tables e below (T0.setTop (mkF m 109 #[.val (.int p0), .val (.int p1), .val (.int p2), .val (.int p3), .val (.int p4), .val (.int p5), .val (.int (Int32.ofNat ln)), .val (.int (Int32.ofNat n)), .val (.int v1691), .val (.int v1695), .val (.int v1699), .val (.int v1703), .val (.int v1707), .val (.int (0 : Int32)), .unset, .unset, .unset, .unset, .unset, .unset, .unset, .unset, .unset, .unset] [(.int p0)])) _
      refine XS.bipush X0.here hx rfl (own_hb hby at_109) ?_
      refine XS.iushr X0.here hx rfl (own_hb hby at_111) rfl ?_
      refine XS.iconst X0.here hx rfl (own_hb hby at_112) ?_
      refine XS.iand X0.here hx rfl (own_hb hby at_113) rfl ?_
      exact kt
    by_cases hc114_1711 : (((p0.toUInt32 >>> ((9 : Int32) &&& 31).toUInt32).toInt32) &&& (1 : Int32)) = (0 : Int32)
    · skip
      refine own_Go.of (S' := (T0.setTop (mkF m 125 #[.val (.int p0), .val (.int p1), .val (.int p2), .val (.int p3), .val (.int p4), .val (.int p5), .val (.int (Int32.ofNat ln)), .val (.int (Int32.ofNat n)), .val (.int v1691), .val (.int v1695), .val (.int v1699), .val (.int v1703), .val (.int v1707), .val (.int (0 : Int32)), .val (.int (0 : Int32)), .unset, .unset, .unset, .unset, .unset, .unset, .unset, .unset, .unset] [(.int p2)]))) (fun t kt => ?_) ?_
      · show Steps p.tables e below (T0.setTop (mkF m 114 #[.val (.int p0), .val (.int p1), .val (.int p2), .val (.int p3), .val (.int p4), .val (.int p5), .val (.int (Int32.ofNat ln)), .val (.int (Int32.ofNat n)), .val (.int v1691), .val (.int v1695), .val (.int v1699), .val (.int v1703), .val (.int v1707), .val (.int (0 : Int32)), .unset, .unset, .unset, .unset, .unset, .unset, .unset, .unset, .unset, .unset] [(.int (((p0.toUInt32 >>> ((9 : Int32) &&& 31).toUInt32).toInt32) &&& (1 : Int32)))])) _
        refine XS.ifYes X0.here hx rfl (pc0 := 114) (pc' := 121) rfl (own_hb hby at_114) rfl ((if0 _ _).trans (teq hc114_1711).1) (by decide) (by decide) ?_
        refine XS.iconst X0.here hx rfl (own_hb hby at_121) ?_
        refine XS.istore X0.here hx rfl (own_hb hby at_122) rfl (l' := #[.val (.int p0), .val (.int p1), .val (.int p2), .val (.int p3), .val (.int p4), .val (.int p5), .val (.int (Int32.ofNat ln)), .val (.int (Int32.ofNat n)), .val (.int v1691), .val (.int v1695), .val (.int v1699), .val (.int v1703), .val (.int v1707), .val (.int (0 : Int32)), .val (.int (0 : Int32)), .unset, .unset, .unset, .unset, .unset, .unset, .unset, .unset, .unset]) rfl ?_
        refine XS.iloadN X0.here hx rfl (own_hb hby at_124) rfl ?_
        exact kt
      obtain ⟨_, _, ⟨T1712, L1712, k1712, n1712⟩, -, X1712, ⟨Lc1712, hQ1712, l1712, y1712, z1712⟩, st1712⟩ := Jvm.LawKit.callS X0 hx (y := (⟨"com/example/quayside/quayside/RowBeyondBytesPinLaw", "end", "(I)I"⟩ : MethodName)) hown (mvT hZ (hw _ (List.mem_of_getElem? (i := 0) rfl))) (mvT hZ (hw _ (List.mem_of_getElem? (i := 1) rfl))) (mvT hZ (hw _ (List.mem_of_getElem? (i := 2) rfl))) (mvT hZ (hw _ (List.mem_of_getElem? (i := 3) rfl))) (by decide) (backOf (W := 0) (rm1 l Z a0 hw [] p2 h0 n0 Z0 ) hZ (hw _ (List.mem_of_getElem? (i := 3) rfl)) (hw _ (List.mem_of_getElem? (i := 2) rfl)) (by decide) (by decide)) (g := (mkF m 125 #[.val (.int p0), .val (.int p1), .val (.int p2), .val (.int p3), .val (.int p4), .val (.int p5), .val (.int (Int32.ofNat ln)), .val (.int (Int32.ofNat n)), .val (.int v1691), .val (.int v1695), .val (.int v1699), .val (.int v1703), .val (.int v1707), .val (.int (0 : Int32)), .val (.int (0 : Int32)), .unset, .unset, .unset, .unset, .unset, .unset, .unset, .unset, .unset] [(.int p2)])) rfl (by rw [hml]; rfl) (argsL := [(.int p2)]) (rest := []) (lenOf pd_9 rfl) rfl (by show 2 * 0 + _ ≤ _; exact Nat.le_of_eq rfl) (own_hb hby at_125) (fun _ _ => ⟨rfl, e0, (by decide : 0 + 0 ≤ _), (by decide : 0 + 0 ≤ _)⟩)
      dsimp only [Pt.U, Pt.locs, Pt.cells, Pt.slots] at X1712 l1712 y1712 z1712 st1712 hQ1712
      subst l1712 y1712 z1712
      obtain ⟨dn1712, rfl, N1712q, hh1712, p1712_0⟩ := hQ1712
      have N1712 := Fr.app N0 N1712q
      refine own_Go.of (S' := (T1712.setTop (mkF m 128 #[.val (.int p0), .val (.int p1), .val (.int p2), .val (.int p3), .val (.int p4), .val (.int p5), .val (.int (Int32.ofNat ln)), .val (.int (Int32.ofNat n)), .val (.int v1691), .val (.int v1695), .val (.int v1699), .val (.int v1703), .val (.int v1707), .val (.int (0 : Int32)), .val (.int (0 : Int32)), .unset, .unset, .unset, .unset, .unset, .unset, .unset, .unset, .unset] [(.int (Int32.ofNat dn1712))]))) (fun t kt => st1712 t kt) ?_
      refine own_Go.of (S' := (T1712.setTop (mkF m 131 #[.val (.int p0), .val (.int p1), .val (.int p2), .val (.int p3), .val (.int p4), .val (.int p5), .val (.int (Int32.ofNat ln)), .val (.int (Int32.ofNat n)), .val (.int v1691), .val (.int v1695), .val (.int v1699), .val (.int v1703), .val (.int v1707), .val (.int (0 : Int32)), .val (.int (0 : Int32)), .val (.int (Int32.ofNat dn1712)), .unset, .unset, .unset, .unset, .unset, .unset, .unset, .unset] [(.int p3)]))) (fun t kt => ?_) ?_
      · show Steps p.tables e below (T1712.setTop (mkF m 128 #[.val (.int p0), .val (.int p1), .val (.int p2), .val (.int p3), .val (.int p4), .val (.int p5), .val (.int (Int32.ofNat ln)), .val (.int (Int32.ofNat n)), .val (.int v1691), .val (.int v1695), .val (.int v1699), .val (.int v1703), .val (.int v1707), .val (.int (0 : Int32)), .val (.int (0 : Int32)), .unset, .unset, .unset, .unset, .unset, .unset, .unset, .unset, .unset] [(.int (Int32.ofNat dn1712))])) _
        refine XS.istore X1712.here hx rfl (own_hb hby at_128) rfl (l' := #[.val (.int p0), .val (.int p1), .val (.int p2), .val (.int p3), .val (.int p4), .val (.int p5), .val (.int (Int32.ofNat ln)), .val (.int (Int32.ofNat n)), .val (.int v1691), .val (.int v1695), .val (.int v1699), .val (.int v1703), .val (.int v1707), .val (.int (0 : Int32)), .val (.int (0 : Int32)), .val (.int (Int32.ofNat dn1712)), .unset, .unset, .unset, .unset, .unset, .unset, .unset, .unset]) rfl ?_
        refine XS.iloadN X1712.here hx rfl (own_hb hby at_130) rfl ?_
        exact kt
      obtain ⟨_, _, ⟨T1713, L1713, k1713, n1713⟩, -, X1713, ⟨Lc1713, hQ1713, l1713, y1713, z1713⟩, st1713⟩ := Jvm.LawKit.callS X1712 hx (y := (⟨"com/example/quayside/quayside/RowBeyondBytesPinLaw", "end", "(I)I"⟩ : MethodName)) hown (mvT hZ (hw _ (List.mem_of_getElem? (i := 0) rfl))) (mvT hZ (hw _ (List.mem_of_getElem? (i := 1) rfl))) (mvT hZ (hw _ (List.mem_of_getElem? (i := 2) rfl))) (mvT hZ (hw _ (List.mem_of_getElem? (i := 3) rfl))) (by decide) (backOf (W := 0) (rm1 l Z a0 hw [] p3 h0 n0 Z0 ) hZ (hw _ (List.mem_of_getElem? (i := 3) rfl)) (hw _ (List.mem_of_getElem? (i := 2) rfl)) (by decide) (by decide)) (g := (mkF m 131 #[.val (.int p0), .val (.int p1), .val (.int p2), .val (.int p3), .val (.int p4), .val (.int p5), .val (.int (Int32.ofNat ln)), .val (.int (Int32.ofNat n)), .val (.int v1691), .val (.int v1695), .val (.int v1699), .val (.int v1703), .val (.int v1707), .val (.int (0 : Int32)), .val (.int (0 : Int32)), .val (.int (Int32.ofNat dn1712)), .unset, .unset, .unset, .unset, .unset, .unset, .unset, .unset] [(.int p3)])) rfl (by rw [hml]; rfl) (argsL := [(.int p3)]) (rest := []) (lenOf pd_9 rfl) rfl (by show 2 * 0 + _ ≤ _; exact Nat.le_of_eq rfl) (own_hb hby at_131) (fun _ _ => ⟨rfl, hh1712, (by decide : 0 + 0 ≤ _), (by decide : 0 + 0 ≤ _)⟩)
      dsimp only [Pt.U, Pt.locs, Pt.cells, Pt.slots] at X1713 l1713 y1713 z1713 st1713 hQ1713
      subst l1713 y1713 z1713
      obtain ⟨dn1713, rfl, N1713q, hh1713, p1713_0⟩ := hQ1713
      have N1713 := Fr.app N1712 N1713q
      refine own_Go.of (S' := (T1713.setTop (mkF m 134 #[.val (.int p0), .val (.int p1), .val (.int p2), .val (.int p3), .val (.int p4), .val (.int p5), .val (.int (Int32.ofNat ln)), .val (.int (Int32.ofNat n)), .val (.int v1691), .val (.int v1695), .val (.int v1699), .val (.int v1703), .val (.int v1707), .val (.int (0 : Int32)), .val (.int (0 : Int32)), .val (.int (Int32.ofNat dn1712)), .unset, .unset, .unset, .unset, .unset, .unset, .unset, .unset] [(.int (Int32.ofNat dn1713))]))) (fun t kt => st1713 t kt) ?_
      refine own_Go.of (S' := (T1713.setTop (mkF m 138 #[.val (.int p0), .val (.int p1), .val (.int p2), .val (.int p3), .val (.int p4), .val (.int p5), .val (.int (Int32.ofNat ln)), .val (.int (Int32.ofNat n)), .val (.int v1691), .val (.int v1695), .val (.int v1699), .val (.int v1703), .val (.int v1707), .val (.int (0 : Int32)), .val (.int (0 : Int32)), .val (.int (Int32.ofNat dn1712)), .val (.int (Int32.ofNat dn1713)), .unset, .unset, .unset, .unset, .unset, .unset, .unset] [(.int p4)]))) (fun t kt => ?_) ?_
      · show Steps p.tables e below (T1713.setTop (mkF m 134 #[.val (.int p0), .val (.int p1), .val (.int p2), .val (.int p3), .val (.int p4), .val (.int p5), .val (.int (Int32.ofNat ln)), .val (.int (Int32.ofNat n)), .val (.int v1691), .val (.int v1695), .val (.int v1699), .val (.int v1703), .val (.int v1707), .val (.int (0 : Int32)), .val (.int (0 : Int32)), .val (.int (Int32.ofNat dn1712)), .unset, .unset, .unset, .unset, .unset, .unset, .unset, .unset] [(.int (Int32.ofNat dn1713))])) _
        refine XS.istore X1713.here hx rfl (own_hb hby at_134) rfl (l' := #[.val (.int p0), .val (.int p1), .val (.int p2), .val (.int p3), .val (.int p4), .val (.int p5), .val (.int (Int32.ofNat ln)), .val (.int (Int32.ofNat n)), .val (.int v1691), .val (.int v1695), .val (.int v1699), .val (.int v1703), .val (.int v1707), .val (.int (0 : Int32)), .val (.int (0 : Int32)), .val (.int (Int32.ofNat dn1712)), .val (.int (Int32.ofNat dn1713)), .unset, .unset, .unset, .unset, .unset, .unset, .unset]) rfl ?_
        refine XS.iload X1713.here hx rfl (own_hb hby at_136) rfl ?_
        exact kt
      obtain ⟨_, _, ⟨T1714, L1714, k1714, n1714⟩, -, X1714, ⟨Lc1714, hQ1714, l1714, y1714, z1714⟩, st1714⟩ := Jvm.LawKit.callS X1713 hx (y := (⟨"com/example/quayside/quayside/RowBeyondBytesPinLaw", "end", "(I)I"⟩ : MethodName)) hown (mvT hZ (hw _ (List.mem_of_getElem? (i := 0) rfl))) (mvT hZ (hw _ (List.mem_of_getElem? (i := 1) rfl))) (mvT hZ (hw _ (List.mem_of_getElem? (i := 2) rfl))) (mvT hZ (hw _ (List.mem_of_getElem? (i := 3) rfl))) (by decide) (backOf (W := 0) (rm1 l Z a0 hw [] p4 h0 n0 Z0 ) hZ (hw _ (List.mem_of_getElem? (i := 3) rfl)) (hw _ (List.mem_of_getElem? (i := 2) rfl)) (by decide) (by decide)) (g := (mkF m 138 #[.val (.int p0), .val (.int p1), .val (.int p2), .val (.int p3), .val (.int p4), .val (.int p5), .val (.int (Int32.ofNat ln)), .val (.int (Int32.ofNat n)), .val (.int v1691), .val (.int v1695), .val (.int v1699), .val (.int v1703), .val (.int v1707), .val (.int (0 : Int32)), .val (.int (0 : Int32)), .val (.int (Int32.ofNat dn1712)), .val (.int (Int32.ofNat dn1713)), .unset, .unset, .unset, .unset, .unset, .unset, .unset] [(.int p4)])) rfl (by rw [hml]; rfl) (argsL := [(.int p4)]) (rest := []) (lenOf pd_9 rfl) rfl (by show 2 * 0 + _ ≤ _; exact Nat.le_of_eq rfl) (own_hb hby at_138) (fun _ _ => ⟨rfl, hh1713, (by decide : 0 + 0 ≤ _), (by decide : 0 + 0 ≤ _)⟩)
      dsimp only [Pt.U, Pt.locs, Pt.cells, Pt.slots] at X1714 l1714 y1714 z1714 st1714 hQ1714
      subst l1714 y1714 z1714
      obtain ⟨dn1714, rfl, N1714q, hh1714, p1714_0⟩ := hQ1714
      have N1714 := Fr.app N1713 N1714q
      refine own_Go.of (S' := (T1714.setTop (mkF m 141 #[.val (.int p0), .val (.int p1), .val (.int p2), .val (.int p3), .val (.int p4), .val (.int p5), .val (.int (Int32.ofNat ln)), .val (.int (Int32.ofNat n)), .val (.int v1691), .val (.int v1695), .val (.int v1699), .val (.int v1703), .val (.int v1707), .val (.int (0 : Int32)), .val (.int (0 : Int32)), .val (.int (Int32.ofNat dn1712)), .val (.int (Int32.ofNat dn1713)), .unset, .unset, .unset, .unset, .unset, .unset, .unset] [(.int (Int32.ofNat dn1714))]))) (fun t kt => st1714 t kt) ?_
      refine own_Go.of (S' := (T1714.setTop (mkF m 145 #[.val (.int p0), .val (.int p1), .val (.int p2), .val (.int p3), .val (.int p4), .val (.int p5), .val (.int (Int32.ofNat ln)), .val (.int (Int32.ofNat n)), .val (.int v1691), .val (.int v1695), .val (.int v1699), .val (.int v1703), .val (.int v1707), .val (.int (0 : Int32)), .val (.int (0 : Int32)), .val (.int (Int32.ofNat dn1712)), .val (.int (Int32.ofNat dn1713)), .val (.int (Int32.ofNat dn1714)), .unset, .unset, .unset, .unset, .unset, .unset] [(.int p5)]))) (fun t kt => ?_) ?_
      · show Steps p.tables e below (T1714.setTop (mkF m 141 #[.val (.int p0), .val (.int p1), .val (.int p2), .val (.int p3), .val (.int p4), .val (.int p5), .val (.int (Int32.ofNat ln)), .val (.int (Int32.ofNat n)), .val (.int v1691), .val (.int v1695), .val (.int v1699), .val (.int v1703), .val (.int v1707), .val (.int (0 : Int32)), .val (.int (0 : Int32)), .val (.int (Int32.ofNat dn1712)), .val (.int (Int32.ofNat dn1713)), .unset, .unset, .unset, .unset, .unset, .unset, .unset] [(.int (Int32.ofNat dn1714))])) _
        refine XS.istore X1714.here hx rfl (own_hb hby at_141) rfl (l' := #[.val (.int p0), .val (.int p1), .val (.int p2), .val (.int p3), .val (.int p4), .val (.int p5), .val (.int (Int32.ofNat ln)), .val (.int (Int32.ofNat n)), .val (.int v1691), .val (.int v1695), .val (.int v1699), .val (.int v1703), .val (.int v1707), .val (.int (0 : Int32)), .val (.int (0 : Int32)), .val (.int (Int32.ofNat dn1712)), .val (.int (Int32.ofNat dn1713)), .val (.int (Int32.ofNat dn1714)), .unset, .unset, .unset, .unset, .unset, .unset]) rfl ?_
        refine XS.iload X1714.here hx rfl (own_hb hby at_143) rfl ?_
        exact kt
      obtain ⟨_, _, ⟨T1715, L1715, k1715, n1715⟩, -, X1715, ⟨Lc1715, hQ1715, l1715, y1715, z1715⟩, st1715⟩ := Jvm.LawKit.callS X1714 hx (y := (⟨"com/example/quayside/quayside/RowBeyondBytesPinLaw", "end", "(I)I"⟩ : MethodName)) hown (mvT hZ (hw _ (List.mem_of_getElem? (i := 0) rfl))) (mvT hZ (hw _ (List.mem_of_getElem? (i := 1) rfl))) (mvT hZ (hw _ (List.mem_of_getElem? (i := 2) rfl))) (mvT hZ (hw _ (List.mem_of_getElem? (i := 3) rfl))) (by decide) (backOf (W := 0) (rm1 l Z a0 hw [] p5 h0 n0 Z0 ) hZ (hw _ (List.mem_of_getElem? (i := 3) rfl)) (hw _ (List.mem_of_getElem? (i := 2) rfl)) (by decide) (by decide)) (g := (mkF m 145 #[.val (.int p0), .val (.int p1), .val (.int p2), .val (.int p3), .val (.int p4), .val (.int p5), .val (.int (Int32.ofNat ln)), .val (.int (Int32.ofNat n)), .val (.int v1691), .val (.int v1695), .val (.int v1699), .val (.int v1703), .val (.int v1707), .val (.int (0 : Int32)), .val (.int (0 : Int32)), .val (.int (Int32.ofNat dn1712)), .val (.int (Int32.ofNat dn1713)), .val (.int (Int32.ofNat dn1714)), .unset, .unset, .unset, .unset, .unset, .unset] [(.int p5)])) rfl (by rw [hml]; rfl) (argsL := [(.int p5)]) (rest := []) (lenOf pd_9 rfl) rfl (by show 2 * 0 + _ ≤ _; exact Nat.le_of_eq rfl) (own_hb hby at_145) (fun _ _ => ⟨rfl, hh1714, (by decide : 0 + 0 ≤ _), (by decide : 0 + 0 ≤ _)⟩)
      dsimp only [Pt.U, Pt.locs, Pt.cells, Pt.slots] at X1715 l1715 y1715 z1715 st1715 hQ1715
      subst l1715 y1715 z1715
      obtain ⟨dn1715, rfl, N1715q, hh1715, p1715_0⟩ := hQ1715
      have N1715 := Fr.app N1714 N1715q
      refine own_Go.of (S' := (T1715.setTop (mkF m 148 #[.val (.int p0), .val (.int p1), .val (.int p2), .val (.int p3), .val (.int p4), .val (.int p5), .val (.int (Int32.ofNat ln)), .val (.int (Int32.ofNat n)), .val (.int v1691), .val (.int v1695), .val (.int v1699), .val (.int v1703), .val (.int v1707), .val (.int (0 : Int32)), .val (.int (0 : Int32)), .val (.int (Int32.ofNat dn1712)), .val (.int (Int32.ofNat dn1713)), .val (.int (Int32.ofNat dn1714)), .unset, .unset, .unset, .unset, .unset, .unset] [(.int (Int32.ofNat dn1715))]))) (fun t kt => st1715 t kt) ?_
      refine own_Go.of (S' := (T1715.setTop (mkF m 153 #[.val (.int p0), .val (.int p1), .val (.int p2), .val (.int p3), .val (.int p4), .val (.int p5), .val (.int (Int32.ofNat ln)), .val (.int (Int32.ofNat n)), .val (.int v1691), .val (.int v1695), .val (.int v1699), .val (.int v1703), .val (.int v1707), .val (.int (0 : Int32)), .val (.int (0 : Int32)), .val (.int (Int32.ofNat dn1712)), .val (.int (Int32.ofNat dn1713)), .val (.int (Int32.ofNat dn1714)), .val (.int (Int32.ofNat dn1715)), .unset, .unset, .unset, .unset, .unset] [(.int (p1 >>> ((3 : Int32) &&& 31)))]))) (fun t kt => ?_) ?_
      · show Steps p.tables e below (T1715.setTop (mkF m 148 #[.val (.int p0), .val (.int p1), .val (.int p2), .val (.int p3), .val (.int p4), .val (.int p5), .val (.int (Int32.ofNat ln)), .val (.int (Int32.ofNat n)), .val (.int v1691), .val (.int v1695), .val (.int v1699), .val (.int v1703), .val (.int v1707), .val (.int (0 : Int32)), .val (.int (0 : Int32)), .val (.int (Int32.ofNat dn1712)), .val (.int (Int32.ofNat dn1713)), .val (.int (Int32.ofNat dn1714)), .unset, .unset, .unset, .unset, .unset, .unset] [(.int (Int32.ofNat dn1715))])) _
        refine XS.istore X1715.here hx rfl (own_hb hby at_148) rfl (l' := #[.val (.int p0), .val (.int p1), .val (.int p2), .val (.int p3), .val (.int p4), .val (.int p5), .val (.int (Int32.ofNat ln)), .val (.int (Int32.ofNat n)), .val (.int v1691), .val (.int v1695), .val (.int v1699), .val (.int v1703), .val (.int v1707), .val (.int (0 : Int32)), .val (.int (0 : Int32)), .val (.int (Int32.ofNat dn1712)), .val (.int (Int32.ofNat dn1713)), .val (.int (Int32.ofNat dn1714)), .val (.int (Int32.ofNat dn1715)), .unset, .unset, .unset, .unset, .unset]) rfl ?_
        refine XS.iloadN X1715.here hx rfl (own_hb hby at_150) rfl ?_
        refine XS.iconst X1715.here hx rfl (own_hb hby at_151) ?_
        refine XS.ishr X1715.here hx rfl (own_hb hby at_152) rfl ?_
        exact kt
      obtain ⟨_, _, ⟨T1716, L1716, k1716, n1716⟩, -, X1716, ⟨Lc1716, hQ1716, l1716, y1716, z1716⟩, st1716⟩ := Jvm.LawKit.callS X1715 hx (y := (⟨"com/example/quayside/quayside/RowBeyondBytesPinLaw", "end", "(I)I"⟩ : MethodName)) hown (mvT hZ (hw _ (List.mem_of_getElem? (i := 0) rfl))) (mvT hZ (hw _ (List.mem_of_getElem? (i := 1) rfl))) (mvT hZ (hw _ (List.mem_of_getElem? (i := 2) rfl))) (mvT hZ (hw _ (List.mem_of_getElem? (i := 3) rfl))) (by decide) (backOf (W := 0) (rm1 l Z a0 hw [] (p1 >>> ((3 : Int32) &&& 31)) h0 n0 Z0 ) hZ (hw _ (List.mem_of_getElem? (i := 3) rfl)) (hw _ (List.mem_of_getElem? (i := 2) rfl)) (by decide) (by decide)) (g := (mkF m 153 #[.val (.int p0), .val (.int p1), .val (.int p2), .val (.int p3), .val (.int p4), .val (.int p5), .val (.int (Int32.ofNat ln)), .val (.int (Int32.ofNat n)), .val (.int v1691), .val (.int v1695), .val (.int v1699), .val (.int v1703), .val (.int v1707), .val (.int (0 : Int32)), .val (.int (0 : Int32)), .val (.int (Int32.ofNat dn1712)), .val (.int (Int32.ofNat dn1713)), .val (.int (Int32.ofNat dn1714)), .val (.int (Int32.ofNat dn1715)), .unset, .unset, .unset, .unset, .unset] [(.int (p1 >>> ((3 : Int32) &&& 31)))])) rfl (by rw [hml]; rfl) (argsL := [(.int (p1 >>> ((3 : Int32) &&& 31)))]) (rest := []) (lenOf pd_9 rfl) rfl (by show 2 * 0 + _ ≤ _; exact Nat.le_of_eq rfl) (own_hb hby at_153) (fun _ _ => ⟨rfl, hh1715, (by decide : 0 + 0 ≤ _), (by decide : 0 + 0 ≤ _)⟩)
      dsimp only [Pt.U, Pt.locs, Pt.cells, Pt.slots] at X1716 l1716 y1716 z1716 st1716 hQ1716
      subst l1716 y1716 z1716
      obtain ⟨dn1716, rfl, N1716q, hh1716, p1716_0⟩ := hQ1716
      have N1716 := Fr.app N1715 N1716q
      refine own_Go.of (S' := (T1716.setTop (mkF m 156 #[.val (.int p0), .val (.int p1), .val (.int p2), .val (.int p3), .val (.int p4), .val (.int p5), .val (.int (Int32.ofNat ln)), .val (.int (Int32.ofNat n)), .val (.int v1691), .val (.int v1695), .val (.int v1699), .val (.int v1703), .val (.int v1707), .val (.int (0 : Int32)), .val (.int (0 : Int32)), .val (.int (Int32.ofNat dn1712)), .val (.int (Int32.ofNat dn1713)), .val (.int (Int32.ofNat dn1714)), .val (.int (Int32.ofNat dn1715)), .unset, .unset, .unset, .unset, .unset] [(.int (Int32.ofNat dn1716))]))) (fun t kt => st1716 t kt) ?_
      refine own_Go.of (S' := (T1716.setTop (mkF m 160 #[.val (.int p0), .val (.int p1), .val (.int p2), .val (.int p3), .val (.int p4), .val (.int p5), .val (.int (Int32.ofNat ln)), .val (.int (Int32.ofNat n)), .val (.int v1691), .val (.int v1695), .val (.int v1699), .val (.int v1703), .val (.int v1707), .val (.int (0 : Int32)), .val (.int (0 : Int32)), .val (.int (Int32.ofNat dn1712)), .val (.int (Int32.ofNat dn1713)), .val (.int (Int32.ofNat dn1714)), .val (.int (Int32.ofNat dn1715)), .val (.int (Int32.ofNat dn1716)), .unset, .unset, .unset, .unset] [(.int (Int32.ofNat ln))]))) (fun t kt => ?_) ?_
      · show Steps p.tables e below (T1716.setTop (mkF m 156 #[.val (.int p0), .val (.int p1), .val (.int p2), .val (.int p3), .val (.int p4), .val (.int p5), .val (.int (Int32.ofNat ln)), .val (.int (Int32.ofNat n)), .val (.int v1691), .val (.int v1695), .val (.int v1699), .val (.int v1703), .val (.int v1707), .val (.int (0 : Int32)), .val (.int (0 : Int32)), .val (.int (Int32.ofNat dn1712)), .val (.int (Int32.ofNat dn1713)), .val (.int (Int32.ofNat dn1714)), .val (.int (Int32.ofNat dn1715)), .unset, .unset, .unset, .unset, .unset] [(.int (Int32.ofNat dn1716))])) _
        refine XS.istore X1716.here hx rfl (own_hb hby at_156) rfl (l' := #[.val (.int p0), .val (.int p1), .val (.int p2), .val (.int p3), .val (.int p4), .val (.int p5), .val (.int (Int32.ofNat ln)), .val (.int (Int32.ofNat n)), .val (.int v1691), .val (.int v1695), .val (.int v1699), .val (.int v1703), .val (.int v1707), .val (.int (0 : Int32)), .val (.int (0 : Int32)), .val (.int (Int32.ofNat dn1712)), .val (.int (Int32.ofNat dn1713)), .val (.int (Int32.ofNat dn1714)), .val (.int (Int32.ofNat dn1715)), .val (.int (Int32.ofNat dn1716)), .unset, .unset, .unset, .unset]) rfl ?_
        refine XS.iload X1716.here hx rfl (own_hb hby at_158) rfl ?_
        exact kt
      obtain ⟨T1717, h1717, X1717, e1717, E1717, A1717, Q1717, st1717⟩ := own_newPx X1716 hx hZ (hw _ (List.mem_of_getElem? (i := 4) rfl)) hh1716 (g := (mkF m 160 #[.val (.int p0), .val (.int p1), .val (.int p2), .val (.int p3), .val (.int p4), .val (.int p5), .val (.int (Int32.ofNat ln)), .val (.int (Int32.ofNat n)), .val (.int v1691), .val (.int v1695), .val (.int v1699), .val (.int v1703), .val (.int v1707), .val (.int (0 : Int32)), .val (.int (0 : Int32)), .val (.int (Int32.ofNat dn1712)), .val (.int (Int32.ofNat dn1713)), .val (.int (Int32.ofNat dn1714)), .val (.int (Int32.ofNat dn1715)), .val (.int (Int32.ofNat dn1716)), .unset, .unset, .unset, .unset] [(.int (Int32.ofNat ln))])) rfl (own_hb hby at_160) rfl (n := ln) (cap := 7) rfl hln (by decide) (by decide) (by decide)
      obtain ⟨b1717, g1717⟩ : ∃ z, z = h0.size := ⟨_, rfl⟩
      rw [← g1717] at A1717 st1717 Q1717
      have gx1717 : n0 ≤ b1717 := Nat.le_trans Z0 (Nat.le_of_eq g1717.symm)
      refine own_Go.of (S' := (T1717.setTop (mkF m 162 #[.val (.int p0), .val (.int p1), .val (.int p2), .val (.int p3), .val (.int p4), .val (.int p5), .val (.int (Int32.ofNat ln)), .val (.int (Int32.ofNat n)), .val (.int v1691), .val (.int v1695), .val (.int v1699), .val (.int v1703), .val (.int v1707), .val (.int (0 : Int32)), .val (.int (0 : Int32)), .val (.int (Int32.ofNat dn1712)), .val (.int (Int32.ofNat dn1713)), .val (.int (Int32.ofNat dn1714)), .val (.int (Int32.ofNat dn1715)), .val (.int (Int32.ofNat dn1716)), .unset, .unset, .unset, .unset] [(.ref b1717)]))) st1717 ?_
      have hk1718 := Nat.le_trans hk0 E1717.1
      have z1719 := Nat.le_trans Z0 E1717.1
      have f1720 : own_Ar Z h1717 b1717 .byte ln (own_I (fun _ => (0 : Int32))) := A1717
      have f1721 : Exa Z h1717 b1717 "[B" := Q1717
      refine own_Go.of (S' := (T1717.setTop (mkF m 164 #[.val (.int p0), .val (.int p1), .val (.int p2), .val (.int p3), .val (.int p4), .val (.int p5), .val (.int (Int32.ofNat ln)), .val (.int (Int32.ofNat n)), .val (.int v1691), .val (.int v1695), .val (.int v1699), .val (.int v1703), .val (.int v1707), .val (.int (0 : Int32)), .val (.int (0 : Int32)), .val (.int (Int32.ofNat dn1712)), .val (.int (Int32.ofNat dn1713)), .val (.int (Int32.ofNat dn1714)), .val (.int (Int32.ofNat dn1715)), .val (.int (Int32.ofNat dn1716)), .val (.ref b1717), .unset, .unset, .unset] []))) (fun t kt => ?_) ?_
      · show Steps p.tables e below (T1717.setTop (mkF m 162 #[.val (.int p0), .val (.int p1), .val (.int p2), .val (.int p3), .val (.int p4), .val (.int p5), .val (.int (Int32.ofNat ln)), .val (.int (Int32.ofNat n)), .val (.int v1691), .val (.int v1695), .val (.int v1699), .val (.int v1703), .val (.int v1707), .val (.int (0 : Int32)), .val (.int (0 : Int32)), .val (.int (Int32.ofNat dn1712)), .val (.int (Int32.ofNat dn1713)), .val (.int (Int32.ofNat dn1714)), .val (.int (Int32.ofNat dn1715)), .val (.int (Int32.ofNat dn1716)), .unset, .unset, .unset, .unset] [(.ref b1717)])) _
        refine XS.astore X1717.here hx rfl (own_hb hby at_162) rfl rfl (l' := #[.val (.int p0), .val (.int p1), .val (.int p2), .val (.int p3), .val (.int p4), .val (.int p5), .val (.int (Int32.ofNat ln)), .val (.int (Int32.ofNat n)), .val (.int v1691), .val (.int v1695), .val (.int v1699), .val (.int v1703), .val (.int v1707), .val (.int (0 : Int32)), .val (.int (0 : Int32)), .val (.int (Int32.ofNat dn1712)), .val (.int (Int32.ofNat dn1713)), .val (.int (Int32.ofNat dn1714)), .val (.int (Int32.ofNat dn1715)), .val (.int (Int32.ofNat dn1716)), .val (.ref b1717), .unset, .unset, .unset]) rfl ?_
        exact kt
      obtain ⟨T1722, h1722, X1722, e1722, E1722, A1722, D1722, -, st1722⟩ := newO X1717 hx hZ hown (hw _ (List.mem_of_getElem? (i := 5) rfl)) (hw _ (List.mem_of_getElem? (i := 6) rfl)) (hw _ (List.mem_of_getElem? (i := 7) rfl)) e1717 (g := (mkF m 164 #[.val (.int p0), .val (.int p1), .val (.int p2), .val (.int p3), .val (.int p4), .val (.int p5), .val (.int (Int32.ofNat ln)), .val (.int (Int32.ofNat n)), .val (.int v1691), .val (.int v1695), .val (.int v1699), .val (.int v1703), .val (.int v1707), .val (.int (0 : Int32)), .val (.int (0 : Int32)), .val (.int (Int32.ofNat dn1712)), .val (.int (Int32.ofNat dn1713)), .val (.int (Int32.ofNat dn1714)), .val (.int (Int32.ofNat dn1715)), .val (.int (Int32.ofNat dn1716)), .val (.ref b1717), .unset, .unset, .unset] [])) rfl (own_hb hby at_164) (by decide) (by decide)
      obtain ⟨b1722, g1722⟩ : ∃ z, z = h1717.size := ⟨_, rfl⟩
      rw [← g1722] at A1722 D1722 st1722
      have gx1722 : n0 ≤ b1722 := Nat.le_trans z1719 (Nat.le_of_eq g1722.symm)
      have ne1723 : b1717 ≠ b1722 := Nat.ne_of_lt (Nat.lt_of_lt_of_le f1720.lt (Nat.le_of_eq g1722.symm))
      refine own_Go.of (S' := (T1722.setTop (mkF m 167 #[.val (.int p0), .val (.int p1), .val (.int p2), .val (.int p3), .val (.int p4), .val (.int p5), .val (.int (Int32.ofNat ln)), .val (.int (Int32.ofNat n)), .val (.int v1691), .val (.int v1695), .val (.int v1699), .val (.int v1703), .val (.int v1707), .val (.int (0 : Int32)), .val (.int (0 : Int32)), .val (.int (Int32.ofNat dn1712)), .val (.int (Int32.ofNat dn1713)), .val (.int (Int32.ofNat dn1714)), .val (.int (Int32.ofNat dn1715)), .val (.int (Int32.ofNat dn1716)), .val (.ref b1717), .unset, .unset, .unset] [(.ref b1722)]))) st1722 ?_
      have hk1724 := Nat.le_trans hk1718 E1722.1
      have f1725 := f1720.ext E1722
      have f1726 := f1721.ext E1722
      have z1727 := Nat.le_trans z1719 E1722.1
      have f1728 : Fld Z h1722 b1722 "com/example/quayside/quayside/Row" "bytes" "[B" .null := D1722 (Or.inl (hw _ (List.mem_of_getElem? (i := 15) rfl))) (ty := (.array .byte)) (by decide)
      have f1729 : Fld Z h1722 b1722 "com/example/quayside/quayside/Row" "starts" "[I" .null := D1722 (Or.inl (hw _ (List.mem_of_getElem? (i := 18) rfl))) (ty := (.array .int)) (by decide)
      have f1730 : Fld Z h1722 b1722 "com/example/quayside/quayside/Row" "ends" "[I" .null := D1722 (Or.inl (hw _ (List.mem_of_getElem? (i := 20) rfl))) (ty := (.array .int)) (by decide)
      have f1731 : Fld Z h1722 b1722 "com/example/quayside/quayside/Row" "text" "Z" (.int (0 : Int32)) := D1722 (Or.inl (hw _ (List.mem_of_getElem? (i := 40) rfl))) (ty := .boolean) (by decide)
      have f1732 : Fld Z h1722 b1722 "com/example/quayside/quayside/Row" "reach" "I" (.int (0 : Int32)) := D1722 (Or.inl (hw _ (List.mem_of_getElem? (i := 50) rfl))) (ty := .int) (by decide)
      have f1733 : Fld Z h1722 b1722 "com/example/quayside/quayside/Row" "size" "I" (.int (0 : Int32)) := D1722 (Or.inl (hw _ (List.mem_of_getElem? (i := 57) rfl))) (ty := .int) (by decide)
      have f1734 : Fld Z h1722 b1722 "com/example/quayside/quayside/Row" "nulls" "[Z" .null := D1722 (Or.inl (hw _ (List.mem_of_getElem? (i := 69) rfl))) (ty := (.array .boolean)) (by decide)
      have f1735 : Fld Z h1722 b1722 "com/example/quayside/quayside/Row" "nullCount" "I" (.int (0 : Int32)) := D1722 (Or.inl (hw _ (List.mem_of_getElem? (i := 83) rfl))) (ty := .int) (by decide)
      refine own_Go.of (S' := (T1722.setTop (mkF m 168 #[.val (.int p0), .val (.int p1), .val (.int p2), .val (.int p3), .val (.int p4), .val (.int p5), .val (.int (Int32.ofNat ln)), .val (.int (Int32.ofNat n)), .val (.int v1691), .val (.int v1695), .val (.int v1699), .val (.int v1703), .val (.int v1707), .val (.int (0 : Int32)), .val (.int (0 : Int32)), .val (.int (Int32.ofNat dn1712)), .val (.int (Int32.ofNat dn1713)), .val (.int (Int32.ofNat dn1714)), .val (.int (Int32.ofNat dn1715)), .val (.int (Int32.ofNat dn1716)), .val (.ref b1717), .unset, .unset, .unset] [(.ref b1722), (.ref b1722)]))) (fun t kt => ?_) ?_
      · show Steps p.tables e below (T1722.setTop (mkF m 167 #[.val (.int p0), .val (.int p1), .val (.int p2), .val (.int p3), .val (.int p4), .val (.int p5), .val (.int (Int32.ofNat ln)), .val (.int (Int32.ofNat n)), .val (.int v1691), .val (.int v1695), .val (.int v1699), .val (.int v1703), .val (.int v1707), .val (.int (0 : Int32)), .val (.int (0 : Int32)), .val (.int (Int32.ofNat dn1712)), .val (.int (Int32.ofNat dn1713)), .val (.int (Int32.ofNat dn1714)), .val (.int (Int32.ofNat dn1715)), .val (.int (Int32.ofNat dn1716)), .val (.ref b1717), .unset, .unset, .unset] [(.ref b1722)])) _
        refine XS.dup X1722.here hx rfl (own_hb hby at_167) rfl rfl ?_
        exact kt
      obtain ⟨_, _, ⟨T1736, L1736, k1736, n1736⟩, -, X1736, ⟨Lc1736, hQ1736, l1736, y1736, z1736⟩, st1736⟩ := X1722.specialBack hx (y := (⟨"com/example/quayside/quayside/Row", "<init>", "()V"⟩ : MethodName)) rfl hown (mvT hZ (hw _ (List.mem_of_getElem? (i := 8) rfl))) (mvT hZ (hw _ (List.mem_of_getElem? (i := 9) rfl))) (mvT hZ (hw _ (List.mem_of_getElem? (i := 10) rfl))) (by decide) (backOf (W := 1) (rm2 l Z a0 hw [] b1722 .null .null .null h1722 n0 z1727 A1722 f1728 f1729 f1730 f1733 f1732 f1731 f1734 f1735 gx1722) hZ (hw _ (List.mem_of_getElem? (i := 10) rfl)) (hw _ (List.mem_of_getElem? (i := 7) rfl)) (by decide) (by decide)) (g := (mkF m 168 #[.val (.int p0), .val (.int p1), .val (.int p2), .val (.int p3), .val (.int p4), .val (.int p5), .val (.int (Int32.ofNat ln)), .val (.int (Int32.ofNat n)), .val (.int v1691), .val (.int v1695), .val (.int v1699), .val (.int v1703), .val (.int v1707), .val (.int (0 : Int32)), .val (.int (0 : Int32)), .val (.int (Int32.ofNat dn1712)), .val (.int (Int32.ofNat dn1713)), .val (.int (Int32.ofNat dn1714)), .val (.int (Int32.ofNat dn1715)), .val (.int (Int32.ofNat dn1716)), .val (.ref b1717), .unset, .unset, .unset] [(.ref b1722), (.ref b1722)])) rfl (by rw [hml]; rfl) (Steps.refl _) (a := b1722) (argsL := []) (rest := [(.ref b1722)]) (lenOf pd_5 rfl) rfl (by show 2 * 0 + _ ≤ _; exact Nat.le_of_eq rfl) (own_hb hby at_168) (fun _ _ => ⟨rfl, e1722, (by decide : 2 + 3 ≤ _), (by decide : 15 + 8 ≤ _)⟩)
      dsimp only [Pt.U, Pt.locs, Pt.cells, Pt.slots] at X1736 l1736 y1736 z1736 st1736 hQ1736
      subst l1736 y1736 z1736
      obtain ⟨bs1736, rs1736, re1736, rfl, N1736q, K1736, p1736_0, p1736_1, p1736_2, p1736_3, p1736_4, p1736_5, p1736_6, p1736_7, p1736_8, p1736_9, p1736_10, p1736_11, p1736_12, p1736_13, p1736_14⟩ := hQ1736
      have N1736 := Fr.app N1716 N1736q
      refine own_Go.of (S' := (T1736.setTop (mkF m 171 #[.val (.int p0), .val (.int p1), .val (.int p2), .val (.int p3), .val (.int p4), .val (.int p5), .val (.int (Int32.ofNat ln)), .val (.int (Int32.ofNat n)), .val (.int v1691), .val (.int v1695), .val (.int v1699), .val (.int v1703), .val (.int v1707), .val (.int (0 : Int32)), .val (.int (0 : Int32)), .val (.int (Int32.ofNat dn1712)), .val (.int (Int32.ofNat dn1713)), .val (.int (Int32.ofNat dn1714)), .val (.int (Int32.ofNat dn1715)), .val (.int (Int32.ofNat dn1716)), .val (.ref b1717), .unset, .unset, .unset] [(.ref b1722)]))) (fun t kt => st1736.trans kt) ?_
      have gx1737 : n0 ≤ bs1736 := Nat.le_trans z1727 p1736_0
      have ne1738 : b1717 ≠ bs1736 := Nat.ne_of_lt (Nat.lt_of_lt_of_le f1725.lt p1736_0)
      have ne1739 : b1722 ≠ bs1736 := Nat.ne_of_lt (Nat.lt_of_lt_of_le A1722.lt p1736_0)
      have gx1740 : n0 ≤ rs1736 := Nat.le_trans z1727 p1736_1
      have ne1741 : b1717 ≠ rs1736 := Nat.ne_of_lt (Nat.lt_of_lt_of_le f1725.lt p1736_1)
      have ne1742 : b1722 ≠ rs1736 := Nat.ne_of_lt (Nat.lt_of_lt_of_le A1722.lt p1736_1)
      have gx1743 : n0 ≤ re1736 := Nat.le_trans z1727 p1736_2
      have ne1744 : b1717 ≠ re1736 := Nat.ne_of_lt (Nat.lt_of_lt_of_le f1725.lt p1736_2)
      have ne1745 : b1722 ≠ re1736 := Nat.ne_of_lt (Nat.lt_of_lt_of_le A1722.lt p1736_2)
      have hk1746 := Nat.le_trans hk1724 K1736.1
      have f1747 := f1725.keep K1736 (ninS ne1723 nin0)
      have f1748 := f1726.keep K1736
      have f1749 := A1722.keep K1736
      have z1750 := Nat.le_trans z1727 K1736.1
      refine own_Go.of (S' := (T1736.setTop (mkF m 191 #[.val (.int p0), .val (.int p1), .val (.int p2), .val (.int p3), .val (.int p4), .val (.int p5), .val (.int (Int32.ofNat ln)), .val (.int (Int32.ofNat n)), .val (.int v1691), .val (.int v1695), .val (.int v1699), .val (.int v1703), .val (.int v1707), .val (.int (0 : Int32)), .val (.int (0 : Int32)), .val (.int (Int32.ofNat dn1712)), .val (.int (Int32.ofNat dn1713)), .val (.int (Int32.ofNat dn1714)), .val (.int (Int32.ofNat dn1715)), .val (.int (Int32.ofNat dn1716)), .val (.ref b1717), .val (.ref b1722), .unset, .unset] []))) (fun t kt => ?_) ?_
      · show Steps p.tables e below (T1736.setTop (mkF m 171 #[.val (.int p0), .val (.int p1), .val (.int p2), .val (.int p3), .val (.int p4), .val (.int p5), .val (.int (Int32.ofNat ln)), .val (.int (Int32.ofNat n)), .val (.int v1691), .val (.int v1695), .val (.int v1699), .val (.int v1703), .val (.int v1707), .val (.int (0 : Int32)), .val (.int (0 : Int32)), .val (.int (Int32.ofNat dn1712)), .val (.int (Int32.ofNat dn1713)), .val (.int (Int32.ofNat dn1714)), .val (.int (Int32.ofNat dn1715)), .val (.int (Int32.ofNat dn1716)), .val (.ref b1717), .unset, .unset, .unset] [(.ref b1722)])) _
        refine XS.astore X1736.here hx rfl (own_hb hby at_171) rfl rfl (l' := #[.val (.int p0), .val (.int p1), .val (.int p2), .val (.int p3), .val (.int p4), .val (.int p5), .val (.int (Int32.ofNat ln)), .val (.int (Int32.ofNat n)), .val (.int v1691), .val (.int v1695), .val (.int v1699), .val (.int v1703), .val (.int v1707), .val (.int (0 : Int32)), .val (.int (0 : Int32)), .val (.int (Int32.ofNat dn1712)), .val (.int (Int32.ofNat dn1713)), .val (.int (Int32.ofNat dn1714)), .val (.int (Int32.ofNat dn1715)), .val (.int (Int32.ofNat dn1716)), .val (.ref b1717), .val (.ref b1722), .unset, .unset]) rfl ?_
        refine XS.iload X1736.here hx rfl (own_hb hby at_173) rfl ?_
        refine XS.ifYes X1736.here hx rfl (pc0 := 175) (pc' := 191) rfl (own_hb hby at_175) rfl ((if0 _ _).trans (teq (rfl : (0 : Int32) = (0 : Int32))).1) (by decide) (by decide) ?_
        exact kt
      have f1751 : Fld Z T1736.heap b1722 "com/example/quayside/quayside/Row" "size" "I" (.int (Int32.ofNat 0)) := p1736_8
      have rowL : own_Row Z T1736.heap n0 b1717 b1722 0 4 (own_D v1691 v1695 v1699 v1703 v1707 dn1712 dn1713 dn1714 dn1715 dn1716) bs1736 := ⟨rs1736, re1736, (fun _ => (0 : Int32)), (fun _ => (0 : Int32)), (0 : Int32), (0 : Int32), p1736_4, p1736_6, p1736_7, f1751, p1736_9, p1736_10, p1736_5, p1736_13, p1736_14, gx1722, gx1740, gx1743, ne1742, ne1745, p1736_3, ne1723, ne1741, ne1744, (by decide), (Or.inl rfl), ⟨(fun i hi => absurd hi (Nat.not_lt_zero i)), own_Rch.zero⟩, Or.inl ⟨p1736_11, p1736_12⟩⟩
      refine own_Go.of (S' := (T1736.setTop (mkF m 200 #[.val (.int p0), .val (.int p1), .val (.int p2), .val (.int p3), .val (.int p4), .val (.int p5), .val (.int (Int32.ofNat ln)), .val (.int (Int32.ofNat n)), .val (.int v1691), .val (.int v1695), .val (.int v1699), .val (.int v1703), .val (.int v1707), .val (.int (0 : Int32)), .val (.int (0 : Int32)), .val (.int (Int32.ofNat dn1712)), .val (.int (Int32.ofNat dn1713)), .val (.int (Int32.ofNat dn1714)), .val (.int (Int32.ofNat dn1715)), .val (.int (Int32.ofNat dn1716)), .val (.ref b1717), .val (.ref b1722), .unset, .unset] [(.ref b1717), (.ref b1722)]))) (fun t kt => ?_) ?_
      · show Steps p.tables e below (T1736.setTop (mkF m 191 #[.val (.int p0), .val (.int p1), .val (.int p2), .val (.int p3), .val (.int p4), .val (.int p5), .val (.int (Int32.ofNat ln)), .val (.int (Int32.ofNat n)), .val (.int v1691), .val (.int v1695), .val (.int v1699), .val (.int v1703), .val (.int v1707), .val (.int (0 : Int32)), .val (.int (0 : Int32)), .val (.int (Int32.ofNat dn1712)), .val (.int (Int32.ofNat dn1713)), .val (.int (Int32.ofNat dn1714)), .val (.int (Int32.ofNat dn1715)), .val (.int (Int32.ofNat dn1716)), .val (.ref b1717), .val (.ref b1722), .unset, .unset] [])) _
        refine XS.iload X1736.here hx rfl (own_hb hby at_191) rfl ?_
        refine XS.ifNo X1736.here hx rfl (own_hb hby at_193) rfl ((if0 _ _).trans (teq (rfl : (0 : Int32) = (0 : Int32))).2) ?_
        refine XS.aload X1736.here hx rfl (own_hb hby at_196) rfl rfl ?_
        refine XS.aload X1736.here hx rfl (own_hb hby at_198) rfl rfl ?_
        exact kt
      obtain ⟨cq1752, kq1752, q1752a, q1752b, q1752c⟩ := isOf hZ rfl p1736_4
      obtain ⟨_, _, ⟨T1752, L1752, k1752, n1752⟩, -, X1752, hSn1752, hgr1752, ⟨Lc1752, hQ1752, l1752, y1752, z1752⟩, st1752⟩ := X1736.virtualBackS hx (y := (⟨"com/example/quayside/quayside/Row", "setBytes", "([B)V"⟩ : MethodName)) (z := (⟨"com/example/quayside/quayside/Row", "setBytes", "([B)V"⟩ : MethodName)) hown (mvT hZ (hw _ (List.mem_of_getElem? (i := 21) rfl))) (mvT hZ (hw _ (List.mem_of_getElem? (i := 22) rfl))) (notFace_of_selects (args := #[]) (mvT hZ (hw _ (List.mem_of_getElem? (i := 24) rfl)))) (mvT hZ (hw _ (List.mem_of_getElem? (i := 24) rfl))) (mvT hZ (hw _ (List.mem_of_getElem? (i := 23) rfl))) (by decide) (backOfS (W := 0) (rm4 l Z a0 hw [] b1722 b1717 0 4 (own_D v1691 v1695 v1699 v1703 v1707 dn1712 dn1713 dn1714 dn1715 dn1716) bs1736 ln (own_I (fun _ => (0 : Int32))) T1736.heap n0 z1750 rowL f1747 f1748) hZ (hw _ (List.mem_of_getElem? (i := 25) rfl)) (hw _ (List.mem_of_getElem? (i := 7) rfl)) (by decide) (by decide)) q1752a q1752c (g := (mkF m 200 #[.val (.int p0), .val (.int p1), .val (.int p2), .val (.int p3), .val (.int p4), .val (.int p5), .val (.int (Int32.ofNat ln)), .val (.int (Int32.ofNat n)), .val (.int v1691), .val (.int v1695), .val (.int v1699), .val (.int v1703), .val (.int v1707), .val (.int (0 : Int32)), .val (.int (0 : Int32)), .val (.int (Int32.ofNat dn1712)), .val (.int (Int32.ofNat dn1713)), .val (.int (Int32.ofNat dn1714)), .val (.int (Int32.ofNat dn1715)), .val (.int (Int32.ofNat dn1716)), .val (.ref b1717), .val (.ref b1722), .unset, .unset] [(.ref b1717), (.ref b1722)])) rfl (by rw [hml]; rfl) (Steps.refl _) (argsL := [(.ref b1717)]) (rest := []) (lenOf pd_8 rfl) rfl (by show 2 * 0 + _ ≤ _; exact Nat.le_of_eq rfl) (own_hb hby at_200) (fun _ _ => ⟨rfl, rfl, (by decide : 5 + 2 ≤ _), (by decide : 23 + 24 ≤ _)⟩)
      dsimp only [Pt.U, Pt.locs, Pt.cells, Pt.slots] at X1752 l1752 y1752 z1752 st1752 hQ1752 hSn1752 hgr1752
      subst l1752 y1752 z1752
      have hgq1752 : T1736.heap.size ≤ T1752.heap.size := by exact hgr1752
      obtain ⟨X1752, hS1752, hZ, hown⟩ := rebS (vm0 := s.vm) hS0 hk1746 X1752 hSn1752 hgq1752 hZ hown
      obtain ⟨rfl, N1752q, K1752, p1752_0⟩ := hQ1752
      have N1752 := Fr.app N1736 N1752q
      refine own_Go.of (S' := (T1752.setTop (mkF m 203 #[.val (.int p0), .val (.int p1), .val (.int p2), .val (.int p3), .val (.int p4), .val (.int p5), .val (.int (Int32.ofNat ln)), .val (.int (Int32.ofNat n)), .val (.int v1691), .val (.int v1695), .val (.int v1699), .val (.int v1703), .val (.int v1707), .val (.int (0 : Int32)), .val (.int (0 : Int32)), .val (.int (Int32.ofNat dn1712)), .val (.int (Int32.ofNat dn1713)), .val (.int (Int32.ofNat dn1714)), .val (.int (Int32.ofNat dn1715)), .val (.int (Int32.ofNat dn1716)), .val (.ref b1717), .val (.ref b1722), .unset, .unset] []))) (fun t kt => st1752.trans kt) ?_
      have f1753 := f1747.kx K1752
      have f1754 := own_Ek f1748 K1752
      have z1755 := Nat.le_trans z1750 K1752.1
      exact seg203e (vm0 := T1752.vm) hw hx hZ hS1752 hby hml hret hlk hown hnm p0 p1 p2 p3 p4 p5 h0 n0 ln n v1691 v1695 v1699 v1703 v1707 (0 : Int32) dn1712 dn1713 dn1714 dn1715 dn1716 b1717 b1722 4 (own_D v1691 v1695 v1699 v1703 v1707 dn1712 dn1713 dn1714 dn1715 dn1716) (own_I (fun _ => (0 : Int32))) (own_mono X1752 (by decide) (by decide)) rfl N1752 z1755 p1752_0 f1753 f1754 hln hn hbbv1691 hbbv1695 hbbv1699 hbbv1703 hbbv1707 p1712_0 p1713_0 p1714_0 p1715_0 p1716_0 (fun _ => rfl) (fun _ => rfl) (fun _ => rfl) (fun _ => rfl) (fun _ => rfl) (Nat.le_refl _)
    · skip
      refine own_Go.of (S' := (T0.setTop (mkF m 125 #[.val (.int p0), .val (.int p1), .val (.int p2), .val (.int p3), .val (.int p4), .val (.int p5), .val (.int (Int32.ofNat ln)), .val (.int (Int32.ofNat n)), .val (.int v1691), .val (.int v1695), .val (.int v1699), .val (.int v1703), .val (.int v1707), .val (.int (0 : Int32)), .val (.int (1 : Int32)), .unset, .unset, .unset, .unset, .unset, .unset, .unset, .unset, .unset] [(.int p2)]))) (fun t kt => ?_) ?_
      · show Steps p.tables e below (T0.setTop (mkF m 114 #[.val (.int p0), .val (.int p1), .val (.int p2), .val (.int p3), .val (.int p4), .val (.int p5), .val (.int (Int32.ofNat ln)), .val (.int (Int32.ofNat n)), .val (.int v1691), .val (.int v1695), .val (.int v1699), .val (.int v1703), .val (.int v1707), .val (.int (0 : Int32)), .unset, .unset, .unset, .unset, .unset, .unset, .unset, .unset, .unset, .unset] [(.int (((p0.toUInt32 >>> ((9 : Int32) &&& 31).toUInt32).toInt32) &&& (1 : Int32)))])) _
        refine XS.ifNo X0.here hx rfl (own_hb hby at_114) rfl ((if0 _ _).trans (feq hc114_1711).1) ?_
        refine XS.iconst X0.here hx rfl (own_hb hby at_117) ?_
        refine XS.goto X0.here hx rfl (pc0 := 118) (pc' := 122) rfl (own_hb hby at_118) (by decide) (by decide) ?_
        refine XS.istore X0.here hx rfl (own_hb hby at_122) rfl (l' := #[.val (.int p0), .val (.int p1), .val (.int p2), .val (.int p3), .val (.int p4), .val (.int p5), .val (.int (Int32.ofNat ln)), .val (.int (Int32.ofNat n)), .val (.int v1691), .val (.int v1695), .val (.int v1699), .val (.int v1703), .val (.int v1707), .val (.int (0 : Int32)), .val (.int (1 : Int32)), .unset, .unset, .unset, .unset, .unset, .unset, .unset, .unset, .unset]) rfl ?_
        show Steps p.tables e below (T0.setTop (mkF m 124 #[.val (.int p0), .val (.int p1), .val (.int p2), .val (.int p3), .val (.int p4), .val (.int p5), .val (.int (Int32.ofNat ln)), .val (.int (Int32.ofNat n)), .val (.int v1691), .val (.int v1695), .val (.int v1699), .val (.int v1703), .val (.int v1707), .val (.int (0 : Int32)), .val (.int (1 : Int32)), .unset, .unset, .unset, .unset, .unset, .unset, .unset, .unset, .unset] [])) _
        refine XS.iloadN X0.here hx rfl (own_hb hby at_124) rfl ?_
        exact kt
      obtain ⟨_, _, ⟨T1756, L1756, k1756, n1756⟩, -, X1756, ⟨Lc1756, hQ1756, l1756, y1756, z1756⟩, st1756⟩ := Jvm.LawKit.callS X0 hx (y := (⟨"com/example/quayside/quayside/RowBeyondBytesPinLaw", "end", "(I)I"⟩ : MethodName)) hown (mvT hZ (hw _ (List.mem_of_getElem? (i := 0) rfl))) (mvT hZ (hw _ (List.mem_of_getElem? (i := 1) rfl))) (mvT hZ (hw _ (List.mem_of_getElem? (i := 2) rfl))) (mvT hZ (hw _ (List.mem_of_getElem? (i := 3) rfl))) (by decide) (backOf (W := 0) (rm1 l Z a0 hw [] p2 h0 n0 Z0 ) hZ (hw _ (List.mem_of_getElem? (i := 3) rfl)) (hw _ (List.mem_of_getElem? (i := 2) rfl)) (by decide) (by decide)) (g := (mkF m 125 #[.val (.int p0), .val (.int p1), .val (.int p2), .val (.int p3), .val (.int p4), .val (.int p5), .val (.int (Int32.ofNat ln)), .val (.int (Int32.ofNat n)), .val (.int v1691), .val (.int v1695), .val (.int v1699), .val (.int v1703), .val (.int v1707), .val (.int (0 : Int32)), .val (.int (1 : Int32)), .unset, .unset, .unset, .unset, .unset, .unset, .unset, .unset, .unset] [(.int p2)])) rfl (by rw [hml]; rfl) (argsL := [(.int p2)]) (rest := []) (lenOf pd_9 rfl) rfl (by show 2 * 0 + _ ≤ _; exact Nat.le_of_eq rfl) (own_hb hby at_125) (fun _ _ => ⟨rfl, e0, (by decide : 0 + 0 ≤ _), (by decide : 0 + 0 ≤ _)⟩)
      dsimp only [Pt.U, Pt.locs, Pt.cells, Pt.slots] at X1756 l1756 y1756 z1756 st1756 hQ1756
      subst l1756 y1756 z1756
      obtain ⟨dn1756, rfl, N1756q, hh1756, p1756_0⟩ := hQ1756
      have N1756 := Fr.app N0 N1756q
      refine own_Go.of (S' := (T1756.setTop (mkF m 128 #[.val (.int p0), .val (.int p1), .val (.int p2), .val (.int p3), .val (.int p4), .val (.int p5), .val (.int (Int32.ofNat ln)), .val (.int (Int32.ofNat n)), .val (.int v1691), .val (.int v1695), .val (.int v1699), .val (.int v1703), .val (.int v1707), .val (.int (0 : Int32)), .val (.int (1 : Int32)), .unset, .unset, .unset, .unset, .unset, .unset, .unset, .unset, .unset] [(.int (Int32.ofNat dn1756))]))) (fun t kt => st1756 t kt) ?_
      refine own_Go.of (S' := (T1756.setTop (mkF m 131 #[.val (.int p0), .val (.int p1), .val (.int p2), .val (.int p3), .val (.int p4), .val (.int p5), .val (.int (Int32.ofNat ln)), .val (.int (Int32.ofNat n)), .val (.int v1691), .val (.int v1695), .val (.int v1699), .val (.int v1703), .val (.int v1707), .val (.int (0 : Int32)), .val (.int (1 : Int32)), .val (.int (Int32.ofNat dn1756)), .unset, .unset, .unset, .unset, .unset, .unset, .unset, .unset] [(.int p3)]))) (fun t kt => ?_) ?_
      · show Steps p.tables e below (T1756.setTop (mkF m 128 #[.val (.int p0), .val (.int p1), .val (.int p2), .val (.int p3), .val (.int p4), .val (.int p5), .val (.int (Int32.ofNat ln)), .val (.int (Int32.ofNat n)), .val (.int v1691), .val (.int v1695), .val (.int v1699), .val (.int v1703), .val (.int v1707), .val (.int (0 : Int32)), .val (.int (1 : Int32)), .unset, .unset, .unset, .unset, .unset, .unset, .unset, .unset, .unset] [(.int (Int32.ofNat dn1756))])) _
        refine XS.istore X1756.here hx rfl (own_hb hby at_128) rfl (l' := #[.val (.int p0), .val (.int p1), .val (.int p2), .val (.int p3), .val (.int p4), .val (.int p5), .val (.int (Int32.ofNat ln)), .val (.int (Int32.ofNat n)), .val (.int v1691), .val (.int v1695), .val (.int v1699), .val (.int v1703), .val (.int v1707), .val (.int (0 : Int32)), .val (.int (1 : Int32)), .val (.int (Int32.ofNat dn1756)), .unset, .unset, .unset, .unset, .unset, .unset, .unset, .unset]) rfl ?_
        refine XS.iloadN X1756.here hx rfl (own_hb hby at_130) rfl ?_
        exact kt
      obtain ⟨_, _, ⟨T1757, L1757, k1757, n1757⟩, -, X1757, ⟨Lc1757, hQ1757, l1757, y1757, z1757⟩, st1757⟩ := Jvm.LawKit.callS X1756 hx (y := (⟨"com/example/quayside/quayside/RowBeyondBytesPinLaw", "end", "(I)I"⟩ : MethodName)) hown (mvT hZ (hw _ (List.mem_of_getElem? (i := 0) rfl))) (mvT hZ (hw _ (List.mem_of_getElem? (i := 1) rfl))) (mvT hZ (hw _ (List.mem_of_getElem? (i := 2) rfl))) (mvT hZ (hw _ (List.mem_of_getElem? (i := 3) rfl))) (by decide) (backOf (W := 0) (rm1 l Z a0 hw [] p3 h0 n0 Z0 ) hZ (hw _ (List.mem_of_getElem? (i := 3) rfl)) (hw _ (List.mem_of_getElem? (i := 2) rfl)) (by decide) (by decide)) (g := (mkF m 131 #[.val (.int p0), .val (.int p1), .val (.int p2), .val (.int p3), .val (.int p4), .val (.int p5), .val (.int (Int32.ofNat ln)), .val (.int (Int32.ofNat n)), .val (.int v1691), .val (.int v1695), .val (.int v1699), .val (.int v1703), .val (.int v1707), .val (.int (0 : Int32)), .val (.int (1 : Int32)), .val (.int (Int32.ofNat dn1756)), .unset, .unset, .unset, .unset, .unset, .unset, .unset, .unset] [(.int p3)])) rfl (by rw [hml]; rfl) (argsL := [(.int p3)]) (rest := []) (lenOf pd_9 rfl) rfl (by show 2 * 0 + _ ≤ _; exact Nat.le_of_eq rfl) (own_hb hby at_131) (fun _ _ => ⟨rfl, hh1756, (by decide : 0 + 0 ≤ _), (by decide : 0 + 0 ≤ _)⟩)
      dsimp only [Pt.U, Pt.locs, Pt.cells, Pt.slots] at X1757 l1757 y1757 z1757 st1757 hQ1757
      subst l1757 y1757 z1757
      obtain ⟨dn1757, rfl, N1757q, hh1757, p1757_0⟩ := hQ1757
      have N1757 := Fr.app N1756 N1757q
      refine own_Go.of (S' := (T1757.setTop (mkF m 134 #[.val (.int p0), .val (.int p1), .val (.int p2), .val (.int p3), .val (.int p4), .val (.int p5), .val (.int (Int32.ofNat ln)), .val (.int (Int32.ofNat n)), .val (.int v1691), .val (.int v1695), .val (.int v1699), .val (.int v1703), .val (.int v1707), .val (.int (0 : Int32)), .val (.int (1 : Int32)), .val (.int (Int32.ofNat dn1756)), .unset, .unset, .unset, .unset, .unset, .unset, .unset, .unset] [(.int (Int32.ofNat dn1757))]))) (fun t kt => st1757 t kt) ?_
      refine own_Go.of (S' := (T1757.setTop (mkF m 138 #[.val (.int p0), .val (.int p1), .val (.int p2), .val (.int p3), .val (.int p4), .val (.int p5), .val (.int (Int32.ofNat ln)), .val (.int (Int32.ofNat n)), .val (.int v1691), .val (.int v1695), .val (.int v1699), .val (.int v1703), .val (.int v1707), .val (.int (0 : Int32)), .val (.int (1 : Int32)), .val (.int (Int32.ofNat dn1756)), .val (.int (Int32.ofNat dn1757)), .unset, .unset, .unset, .unset, .unset, .unset, .unset] [(.int p4)]))) (fun t kt => ?_) ?_
      · show Steps p.tables e below (T1757.setTop (mkF m 134 #[.val (.int p0), .val (.int p1), .val (.int p2), .val (.int p3), .val (.int p4), .val (.int p5), .val (.int (Int32.ofNat ln)), .val (.int (Int32.ofNat n)), .val (.int v1691), .val (.int v1695), .val (.int v1699), .val (.int v1703), .val (.int v1707), .val (.int (0 : Int32)), .val (.int (1 : Int32)), .val (.int (Int32.ofNat dn1756)), .unset, .unset, .unset, .unset, .unset, .unset, .unset, .unset] [(.int (Int32.ofNat dn1757))])) _
        refine XS.istore X1757.here hx rfl (own_hb hby at_134) rfl (l' := #[.val (.int p0), .val (.int p1), .val (.int p2), .val (.int p3), .val (.int p4), .val (.int p5), .val (.int (Int32.ofNat ln)), .val (.int (Int32.ofNat n)), .val (.int v1691), .val (.int v1695), .val (.int v1699), .val (.int v1703), .val (.int v1707), .val (.int (0 : Int32)), .val (.int (1 : Int32)), .val (.int (Int32.ofNat dn1756)), .val (.int (Int32.ofNat dn1757)), .unset, .unset, .unset, .unset, .unset, .unset, .unset]) rfl ?_
        refine XS.iload X1757.here hx rfl (own_hb hby at_136) rfl ?_
        exact kt
      obtain ⟨_, _, ⟨T1758, L1758, k1758, n1758⟩, -, X1758, ⟨Lc1758, hQ1758, l1758, y1758, z1758⟩, st1758⟩ := Jvm.LawKit.callS X1757 hx (y := (⟨"com/example/quayside/quayside/RowBeyondBytesPinLaw", "end", "(I)I"⟩ : MethodName)) hown (mvT hZ (hw _ (List.mem_of_getElem? (i := 0) rfl))) (mvT hZ (hw _ (List.mem_of_getElem? (i := 1) rfl))) (mvT hZ (hw _ (List.mem_of_getElem? (i := 2) rfl))) (mvT hZ (hw _ (List.mem_of_getElem? (i := 3) rfl))) (by decide) (backOf (W := 0) (rm1 l Z a0 hw [] p4 h0 n0 Z0 ) hZ (hw _ (List.mem_of_getElem? (i := 3) rfl)) (hw _ (List.mem_of_getElem? (i := 2) rfl)) (by decide) (by decide)) (g := (mkF m 138 #[.val (.int p0), .val (.int p1), .val (.int p2), .val (.int p3), .val (.int p4), .val (.int p5), .val (.int (Int32.ofNat ln)), .val (.int (Int32.ofNat n)), .val (.int v1691), .val (.int v1695), .val (.int v1699), .val (.int v1703), .val (.int v1707), .val (.int (0 : Int32)), .val (.int (1 : Int32)), .val (.int (Int32.ofNat dn1756)), .val (.int (Int32.ofNat dn1757)), .unset, .unset, .unset, .unset, .unset, .unset, .unset] [(.int p4)])) rfl (by rw [hml]; rfl) (argsL := [(.int p4)]) (rest := []) (lenOf pd_9 rfl) rfl (by show 2 * 0 + _ ≤ _; exact Nat.le_of_eq rfl) (own_hb hby at_138) (fun _ _ => ⟨rfl, hh1757, (by decide : 0 + 0 ≤ _), (by decide : 0 + 0 ≤ _)⟩)
      dsimp only [Pt.U, Pt.locs, Pt.cells, Pt.slots] at X1758 l1758 y1758 z1758 st1758 hQ1758
      subst l1758 y1758 z1758
      obtain ⟨dn1758, rfl, N1758q, hh1758, p1758_0⟩ := hQ1758
      have N1758 := Fr.app N1757 N1758q
      refine own_Go.of (S' := (T1758.setTop (mkF m 141 #[.val (.int p0), .val (.int p1), .val (.int p2), .val (.int p3), .val (.int p4), .val (.int p5), .val (.int (Int32.ofNat ln)), .val (.int (Int32.ofNat n)), .val (.int v1691), .val (.int v1695), .val (.int v1699), .val (.int v1703), .val (.int v1707), .val (.int (0 : Int32)), .val (.int (1 : Int32)), .val (.int (Int32.ofNat dn1756)), .val (.int (Int32.ofNat dn1757)), .unset, .unset, .unset, .unset, .unset, .unset, .unset] [(.int (Int32.ofNat dn1758))]))) (fun t kt => st1758 t kt) ?_
      refine own_Go.of (S' := (T1758.setTop (mkF m 145 #[.val (.int p0), .val (.int p1), .val (.int p2), .val (.int p3), .val (.int p4), .val (.int p5), .val (.int (Int32.ofNat ln)), .val (.int (Int32.ofNat n)), .val (.int v1691), .val (.int v1695), .val (.int v1699), .val (.int v1703), .val (.int v1707), .val (.int (0 : Int32)), .val (.int (1 : Int32)), .val (.int (Int32.ofNat dn1756)), .val (.int (Int32.ofNat dn1757)), .val (.int (Int32.ofNat dn1758)), .unset, .unset, .unset, .unset, .unset, .unset] [(.int p5)]))) (fun t kt => ?_) ?_
      · show Steps p.tables e below (T1758.setTop (mkF m 141 #[.val (.int p0), .val (.int p1), .val (.int p2), .val (.int p3), .val (.int p4), .val (.int p5), .val (.int (Int32.ofNat ln)), .val (.int (Int32.ofNat n)), .val (.int v1691), .val (.int v1695), .val (.int v1699), .val (.int v1703), .val (.int v1707), .val (.int (0 : Int32)), .val (.int (1 : Int32)), .val (.int (Int32.ofNat dn1756)), .val (.int (Int32.ofNat dn1757)), .unset, .unset, .unset, .unset, .unset, .unset, .unset] [(.int (Int32.ofNat dn1758))])) _
        refine XS.istore X1758.here hx rfl (own_hb hby at_141) rfl (l' := #[.val (.int p0), .val (.int p1), .val (.int p2), .val (.int p3), .val (.int p4), .val (.int p5), .val (.int (Int32.ofNat ln)), .val (.int (Int32.ofNat n)), .val (.int v1691), .val (.int v1695), .val (.int v1699), .val (.int v1703), .val (.int v1707), .val (.int (0 : Int32)), .val (.int (1 : Int32)), .val (.int (Int32.ofNat dn1756)), .val (.int (Int32.ofNat dn1757)), .val (.int (Int32.ofNat dn1758)), .unset, .unset, .unset, .unset, .unset, .unset]) rfl ?_
        refine XS.iload X1758.here hx rfl (own_hb hby at_143) rfl ?_
        exact kt
      obtain ⟨_, _, ⟨T1759, L1759, k1759, n1759⟩, -, X1759, ⟨Lc1759, hQ1759, l1759, y1759, z1759⟩, st1759⟩ := Jvm.LawKit.callS X1758 hx (y := (⟨"com/example/quayside/quayside/RowBeyondBytesPinLaw", "end", "(I)I"⟩ : MethodName)) hown (mvT hZ (hw _ (List.mem_of_getElem? (i := 0) rfl))) (mvT hZ (hw _ (List.mem_of_getElem? (i := 1) rfl))) (mvT hZ (hw _ (List.mem_of_getElem? (i := 2) rfl))) (mvT hZ (hw _ (List.mem_of_getElem? (i := 3) rfl))) (by decide) (backOf (W := 0) (rm1 l Z a0 hw [] p5 h0 n0 Z0 ) hZ (hw _ (List.mem_of_getElem? (i := 3) rfl)) (hw _ (List.mem_of_getElem? (i := 2) rfl)) (by decide) (by decide)) (g := (mkF m 145 #[.val (.int p0), .val (.int p1), .val (.int p2), .val (.int p3), .val (.int p4), .val (.int p5), .val (.int (Int32.ofNat ln)), .val (.int (Int32.ofNat n)), .val (.int v1691), .val (.int v1695), .val (.int v1699), .val (.int v1703), .val (.int v1707), .val (.int (0 : Int32)), .val (.int (1 : Int32)), .val (.int (Int32.ofNat dn1756)), .val (.int (Int32.ofNat dn1757)), .val (.int (Int32.ofNat dn1758)), .unset, .unset, .unset, .unset, .unset, .unset] [(.int p5)])) rfl (by rw [hml]; rfl) (argsL := [(.int p5)]) (rest := []) (lenOf pd_9 rfl) rfl (by show 2 * 0 + _ ≤ _; exact Nat.le_of_eq rfl) (own_hb hby at_145) (fun _ _ => ⟨rfl, hh1758, (by decide : 0 + 0 ≤ _), (by decide : 0 + 0 ≤ _)⟩)
      dsimp only [Pt.U, Pt.locs, Pt.cells, Pt.slots] at X1759 l1759 y1759 z1759 st1759 hQ1759
      subst l1759 y1759 z1759
      obtain ⟨dn1759, rfl, N1759q, hh1759, p1759_0⟩ := hQ1759
      have N1759 := Fr.app N1758 N1759q
      refine own_Go.of (S' := (T1759.setTop (mkF m 148 #[.val (.int p0), .val (.int p1), .val (.int p2), .val (.int p3), .val (.int p4), .val (.int p5), .val (.int (Int32.ofNat ln)), .val (.int (Int32.ofNat n)), .val (.int v1691), .val (.int v1695), .val (.int v1699), .val (.int v1703), .val (.int v1707), .val (.int (0 : Int32)), .val (.int (1 : Int32)), .val (.int (Int32.ofNat dn1756)), .val (.int (Int32.ofNat dn1757)), .val (.int (Int32.ofNat dn1758)), .unset, .unset, .unset, .unset, .unset, .unset] [(.int (Int32.ofNat dn1759))]))) (fun t kt => st1759 t kt) ?_
      refine own_Go.of (S' := (T1759.setTop (mkF m 153 #[.val (.int p0), .val (.int p1), .val (.int p2), .val (.int p3), .val (.int p4), .val (.int p5), .val (.int (Int32.ofNat ln)), .val (.int (Int32.ofNat n)), .val (.int v1691), .val (.int v1695), .val (.int v1699), .val (.int v1703), .val (.int v1707), .val (.int (0 : Int32)), .val (.int (1 : Int32)), .val (.int (Int32.ofNat dn1756)), .val (.int (Int32.ofNat dn1757)), .val (.int (Int32.ofNat dn1758)), .val (.int (Int32.ofNat dn1759)), .unset, .unset, .unset, .unset, .unset] [(.int (p1 >>> ((3 : Int32) &&& 31)))]))) (fun t kt => ?_) ?_
      · show Steps p.tables e below (T1759.setTop (mkF m 148 #[.val (.int p0), .val (.int p1), .val (.int p2), .val (.int p3), .val (.int p4), .val (.int p5), .val (.int (Int32.ofNat ln)), .val (.int (Int32.ofNat n)), .val (.int v1691), .val (.int v1695), .val (.int v1699), .val (.int v1703), .val (.int v1707), .val (.int (0 : Int32)), .val (.int (1 : Int32)), .val (.int (Int32.ofNat dn1756)), .val (.int (Int32.ofNat dn1757)), .val (.int (Int32.ofNat dn1758)), .unset, .unset, .unset, .unset, .unset, .unset] [(.int (Int32.ofNat dn1759))])) _
        refine XS.istore X1759.here hx rfl (own_hb hby at_148) rfl (l' := #[.val (.int p0), .val (.int p1), .val (.int p2), .val (.int p3), .val (.int p4), .val (.int p5), .val (.int (Int32.ofNat ln)), .val (.int (Int32.ofNat n)), .val (.int v1691), .val (.int v1695), .val (.int v1699), .val (.int v1703), .val (.int v1707), .val (.int (0 : Int32)), .val (.int (1 : Int32)), .val (.int (Int32.ofNat dn1756)), .val (.int (Int32.ofNat dn1757)), .val (.int (Int32.ofNat dn1758)), .val (.int (Int32.ofNat dn1759)), .unset, .unset, .unset, .unset, .unset]) rfl ?_
        refine XS.iloadN X1759.here hx rfl (own_hb hby at_150) rfl ?_
        refine XS.iconst X1759.here hx rfl (own_hb hby at_151) ?_
        refine XS.ishr X1759.here hx rfl (own_hb hby at_152) rfl ?_
        exact kt
      obtain ⟨_, _, ⟨T1760, L1760, k1760, n1760⟩, -, X1760, ⟨Lc1760, hQ1760, l1760, y1760, z1760⟩, st1760⟩ := Jvm.LawKit.callS X1759 hx (y := (⟨"com/example/quayside/quayside/RowBeyondBytesPinLaw", "end", "(I)I"⟩ : MethodName)) hown (mvT hZ (hw _ (List.mem_of_getElem? (i := 0) rfl))) (mvT hZ (hw _ (List.mem_of_getElem? (i := 1) rfl))) (mvT hZ (hw _ (List.mem_of_getElem? (i := 2) rfl))) (mvT hZ (hw _ (List.mem_of_getElem? (i := 3) rfl))) (by decide) (backOf (W := 0) (rm1 l Z a0 hw [] (p1 >>> ((3 : Int32) &&& 31)) h0 n0 Z0 ) hZ (hw _ (List.mem_of_getElem? (i := 3) rfl)) (hw _ (List.mem_of_getElem? (i := 2) rfl)) (by decide) (by decide)) (g := (mkF m 153 #[.val (.int p0), .val (.int p1), .val (.int p2), .val (.int p3), .val (.int p4), .val (.int p5), .val (.int (Int32.ofNat ln)), .val (.int (Int32.ofNat n)), .val (.int v1691), .val (.int v1695), .val (.int v1699), .val (.int v1703), .val (.int v1707), .val (.int (0 : Int32)), .val (.int (1 : Int32)), .val (.int (Int32.ofNat dn1756)), .val (.int (Int32.ofNat dn1757)), .val (.int (Int32.ofNat dn1758)), .val (.int (Int32.ofNat dn1759)), .unset, .unset, .unset, .unset, .unset] [(.int (p1 >>> ((3 : Int32) &&& 31)))])) rfl (by rw [hml]; rfl) (argsL := [(.int (p1 >>> ((3 : Int32) &&& 31)))]) (rest := []) (lenOf pd_9 rfl) rfl (by show 2 * 0 + _ ≤ _; exact Nat.le_of_eq rfl) (own_hb hby at_153) (fun _ _ => ⟨rfl, hh1759, (by decide : 0 + 0 ≤ _), (by decide : 0 + 0 ≤ _)⟩)
      dsimp only [Pt.U, Pt.locs, Pt.cells, Pt.slots] at X1760 l1760 y1760 z1760 st1760 hQ1760
      subst l1760 y1760 z1760
      obtain ⟨dn1760, rfl, N1760q, hh1760, p1760_0⟩ := hQ1760
      have N1760 := Fr.app N1759 N1760q
      refine own_Go.of (S' := (T1760.setTop (mkF m 156 #[.val (.int p0), .val (.int p1), .val (.int p2), .val (.int p3), .val (.int p4), .val (.int p5), .val (.int (Int32.ofNat ln)), .val (.int (Int32.ofNat n)), .val (.int v1691), .val (.int v1695), .val (.int v1699), .val (.int v1703), .val (.int v1707), .val (.int (0 : Int32)), .val (.int (1 : Int32)), .val (.int (Int32.ofNat dn1756)), .val (.int (Int32.ofNat dn1757)), .val (.int (Int32.ofNat dn1758)), .val (.int (Int32.ofNat dn1759)), .unset, .unset, .unset, .unset, .unset] [(.int (Int32.ofNat dn1760))]))) (fun t kt => st1760 t kt) ?_
      refine own_Go.of (S' := (T1760.setTop (mkF m 160 #[.val (.int p0), .val (.int p1), .val (.int p2), .val (.int p3), .val (.int p4), .val (.int p5), .val (.int (Int32.ofNat ln)), .val (.int (Int32.ofNat n)), .val (.int v1691), .val (.int v1695), .val (.int v1699), .val (.int v1703), .val (.int v1707), .val (.int (0 : Int32)), .val (.int (1 : Int32)), .val (.int (Int32.ofNat dn1756)), .val (.int (Int32.ofNat dn1757)), .val (.int (Int32.ofNat dn1758)), .val (.int (Int32.ofNat dn1759)), .val (.int (Int32.ofNat dn1760)), .unset, .unset, .unset, .unset] [(.int (Int32.ofNat ln))]))) (fun t kt => ?_) ?_
      · show Steps p.tables e below (T1760.setTop (mkF m 156 #[.val (.int p0), .val (.int p1), .val (.int p2), .val (.int p3), .val (.int p4), .val (.int p5), .val (.int (Int32.ofNat ln)), .val (.int (Int32.ofNat n)), .val (.int v1691), .val (.int v1695), .val (.int v1699), .val (.int v1703), .val (.int v1707), .val (.int (0 : Int32)), .val (.int (1 : Int32)), .val (.int (Int32.ofNat dn1756)), .val (.int (Int32.ofNat dn1757)), .val (.int (Int32.ofNat dn1758)), .val (.int (Int32.ofNat dn1759)), .unset, .unset, .unset, .unset, .unset] [(.int (Int32.ofNat dn1760))])) _
        refine XS.istore X1760.here hx rfl (own_hb hby at_156) rfl (l' := #[.val (.int p0), .val (.int p1), .val (.int p2), .val (.int p3), .val (.int p4), .val (.int p5), .val (.int (Int32.ofNat ln)), .val (.int (Int32.ofNat n)), .val (.int v1691), .val (.int v1695), .val (.int v1699), .val (.int v1703), .val (.int v1707), .val (.int (0 : Int32)), .val (.int (1 : Int32)), .val (.int (Int32.ofNat dn1756)), .val (.int (Int32.ofNat dn1757)), .val (.int (Int32.ofNat dn1758)), .val (.int (Int32.ofNat dn1759)), .val (.int (Int32.ofNat dn1760)), .unset, .unset, .unset, .unset]) rfl ?_
        refine XS.iload X1760.here hx rfl (own_hb hby at_158) rfl ?_
        exact kt
      obtain ⟨T1761, h1761, X1761, e1761, E1761, A1761, Q1761, st1761⟩ := own_newPx X1760 hx hZ (hw _ (List.mem_of_getElem? (i := 4) rfl)) hh1760 (g := (mkF m 160 #[.val (.int p0), .val (.int p1), .val (.int p2), .val (.int p3), .val (.int p4), .val (.int p5), .val (.int (Int32.ofNat ln)), .val (.int (Int32.ofNat n)), .val (.int v1691), .val (.int v1695), .val (.int v1699), .val (.int v1703), .val (.int v1707), .val (.int (0 : Int32)), .val (.int (1 : Int32)), .val (.int (Int32.ofNat dn1756)), .val (.int (Int32.ofNat dn1757)), .val (.int (Int32.ofNat dn1758)), .val (.int (Int32.ofNat dn1759)), .val (.int (Int32.ofNat dn1760)), .unset, .unset, .unset, .unset] [(.int (Int32.ofNat ln))])) rfl (own_hb hby at_160) rfl (n := ln) (cap := 7) rfl hln (by decide) (by decide) (by decide)
      obtain ⟨b1761, g1761⟩ : ∃ z, z = h0.size := ⟨_, rfl⟩
      rw [← g1761] at A1761 st1761 Q1761
      have gx1761 : n0 ≤ b1761 := Nat.le_trans Z0 (Nat.le_of_eq g1761.symm)
      refine own_Go.of (S' := (T1761.setTop (mkF m 162 #[.val (.int p0), .val (.int p1), .val (.int p2), .val (.int p3), .val (.int p4), .val (.int p5), .val (.int (Int32.ofNat ln)), .val (.int (Int32.ofNat n)), .val (.int v1691), .val (.int v1695), .val (.int v1699), .val (.int v1703), .val (.int v1707), .val (.int (0 : Int32)), .val (.int (1 : Int32)), .val (.int (Int32.ofNat dn1756)), .val (.int (Int32.ofNat dn1757)), .val (.int (Int32.ofNat dn1758)), .val (.int (Int32.ofNat dn1759)), .val (.int (Int32.ofNat dn1760)), .unset, .unset, .unset, .unset] [(.ref b1761)]))) st1761 ?_
      have hk1762 := Nat.le_trans hk0 E1761.1
      have z1763 := Nat.le_trans Z0 E1761.1
      have f1764 : own_Ar Z h1761 b1761 .byte ln (own_I (fun _ => (0 : Int32))) := A1761
      have f1765 : Exa Z h1761 b1761 "[B" := Q1761
      refine own_Go.of (S' := (T1761.setTop (mkF m 164 #[.val (.int p0), .val (.int p1), .val (.int p2), .val (.int p3), .val (.int p4), .val (.int p5), .val (.int (Int32.ofNat ln)), .val (.int (Int32.ofNat n)), .val (.int v1691), .val (.int v1695), .val (.int v1699), .val (.int v1703), .val (.int v1707), .val (.int (0 : Int32)), .val (.int (1 : Int32)), .val (.int (Int32.ofNat dn1756)), .val (.int (Int32.ofNat dn1757)), .val (.int (Int32.ofNat dn1758)), .val (.int (Int32.ofNat dn1759)), .val (.int (Int32.ofNat dn1760)), .val (.ref b1761), .unset, .unset, .unset] []))) (fun t kt => ?_) ?_
      · show Steps p.tables e below (T1761.setTop (mkF m 162 #[.val (.int p0), .val (.int p1), .val (.int p2), .val (.int p3), .val (.int p4), .val (.int p5), .val (.int (Int32.ofNat ln)), .val (.int (Int32.ofNat n)), .val (.int v1691), .val (.int v1695), .val (.int v1699), .val (.int v1703), .val (.int v1707), .val (.int (0 : Int32)), .val (.int (1 : Int32)), .val (.int (Int32.ofNat dn1756)), .val (.int (Int32.ofNat dn1757)), .val (.int (Int32.ofNat dn1758)), .val (.int (Int32.ofNat dn1759)), .val (.int (Int32.ofNat dn1760)), .unset, .unset, .unset, .unset] [(.ref b1761)])) _
        refine XS.astore X1761.here hx rfl (own_hb hby at_162) rfl rfl (l' := #[.val (.int p0), .val (.int p1), .val (.int p2), .val (.int p3), .val (.int p4), .val (.int p5), .val (.int (Int32.ofNat ln)), .val (.int (Int32.ofNat n)), .val (.int v1691), .val (.int v1695), .val (.int v1699), .val (.int v1703), .val (.int v1707), .val (.int (0 : Int32)), .val (.int (1 : Int32)), .val (.int (Int32.ofNat dn1756)), .val (.int (Int32.ofNat dn1757)), .val (.int (Int32.ofNat dn1758)), .val (.int (Int32.ofNat dn1759)), .val (.int (Int32.ofNat dn1760)), .val (.ref b1761), .unset, .unset, .unset]) rfl ?_
        exact kt
      obtain ⟨T1766, h1766, X1766, e1766, E1766, A1766, D1766, -, st1766⟩ := newO X1761 hx hZ hown (hw _ (List.mem_of_getElem? (i := 5) rfl)) (hw _ (List.mem_of_getElem? (i := 6) rfl)) (hw _ (List.mem_of_getElem? (i := 7) rfl)) e1761 (g := (mkF m 164 #[.val (.int p0), .val (.int p1), .val (.int p2), .val (.int p3), .val (.int p4), .val (.int p5), .val (.int (Int32.ofNat ln)), .val (.int (Int32.ofNat n)), .val (.int v1691), .val (.int v1695), .val (.int v1699), .val (.int v1703), .val (.int v1707), .val (.int (0 : Int32)), .val (.int (1 : Int32)), .val (.int (Int32.ofNat dn1756)), .val (.int (Int32.ofNat dn1757)), .val (.int (Int32.ofNat dn1758)), .val (.int (Int32.ofNat dn1759)), .val (.int (Int32.ofNat dn1760)), .val (.ref b1761), .unset, .unset, .unset] [])) rfl (own_hb hby at_164) (by decide) (by decide)
      obtain ⟨b1766, g1766⟩ : ∃ z, z = h1761.size := ⟨_, rfl⟩
      rw [← g1766] at A1766 D1766 st1766
      have gx1766 : n0 ≤ b1766 := Nat.le_trans z1763 (Nat.le_of_eq g1766.symm)
      have ne1767 : b1761 ≠ b1766 := Nat.ne_of_lt (Nat.lt_of_lt_of_le f1764.lt (Nat.le_of_eq g1766.symm))
      refine own_Go.of (S' := (T1766.setTop (mkF m 167 #[.val (.int p0), .val (.int p1), .val (.int p2), .val (.int p3), .val (.int p4), .val (.int p5), .val (.int (Int32.ofNat ln)), .val (.int (Int32.ofNat n)), .val (.int v1691), .val (.int v1695), .val (.int v1699), .val (.int v1703), .val (.int v1707), .val (.int (0 : Int32)), .val (.int (1 : Int32)), .val (.int (Int32.ofNat dn1756)), .val (.int (Int32.ofNat dn1757)), .val (.int (Int32.ofNat dn1758)), .val (.int (Int32.ofNat dn1759)), .val (.int (Int32.ofNat dn1760)), .val (.ref b1761), .unset, .unset, .unset] [(.ref b1766)]))) st1766 ?_
      have hk1768 := Nat.le_trans hk1762 E1766.1
      have f1769 := f1764.ext E1766
      have f1770 := f1765.ext E1766
      have z1771 := Nat.le_trans z1763 E1766.1
      have f1772 : Fld Z h1766 b1766 "com/example/quayside/quayside/Row" "bytes" "[B" .null := D1766 (Or.inl (hw _ (List.mem_of_getElem? (i := 15) rfl))) (ty := (.array .byte)) (by decide)
      have f1773 : Fld Z h1766 b1766 "com/example/quayside/quayside/Row" "starts" "[I" .null := D1766 (Or.inl (hw _ (List.mem_of_getElem? (i := 18) rfl))) (ty := (.array .int)) (by decide)
      have f1774 : Fld Z h1766 b1766 "com/example/quayside/quayside/Row" "ends" "[I" .null := D1766 (Or.inl (hw _ (List.mem_of_getElem? (i := 20) rfl))) (ty := (.array .int)) (by decide)
      have f1775 : Fld Z h1766 b1766 "com/example/quayside/quayside/Row" "text" "Z" (.int (0 : Int32)) := D1766 (Or.inl (hw _ (List.mem_of_getElem? (i := 40) rfl))) (ty := .boolean) (by decide)
      have f1776 : Fld Z h1766 b1766 "com/example/quayside/quayside/Row" "reach" "I" (.int (0 : Int32)) := D1766 (Or.inl (hw _ (List.mem_of_getElem? (i := 50) rfl))) (ty := .int) (by decide)
      have f1777 : Fld Z h1766 b1766 "com/example/quayside/quayside/Row" "size" "I" (.int (0 : Int32)) := D1766 (Or.inl (hw _ (List.mem_of_getElem? (i := 57) rfl))) (ty := .int) (by decide)
      have f1778 : Fld Z h1766 b1766 "com/example/quayside/quayside/Row" "nulls" "[Z" .null := D1766 (Or.inl (hw _ (List.mem_of_getElem? (i := 69) rfl))) (ty := (.array .boolean)) (by decide)
      have f1779 : Fld Z h1766 b1766 "com/example/quayside/quayside/Row" "nullCount" "I" (.int (0 : Int32)) := D1766 (Or.inl (hw _ (List.mem_of_getElem? (i := 83) rfl))) (ty := .int) (by decide)
      refine own_Go.of (S' := (T1766.setTop (mkF m 168 #[.val (.int p0), .val (.int p1), .val (.int p2), .val (.int p3), .val (.int p4), .val (.int p5), .val (.int (Int32.ofNat ln)), .val (.int (Int32.ofNat n)), .val (.int v1691), .val (.int v1695), .val (.int v1699), .val (.int v1703), .val (.int v1707), .val (.int (0 : Int32)), .val (.int (1 : Int32)), .val (.int (Int32.ofNat dn1756)), .val (.int (Int32.ofNat dn1757)), .val (.int (Int32.ofNat dn1758)), .val (.int (Int32.ofNat dn1759)), .val (.int (Int32.ofNat dn1760)), .val (.ref b1761), .unset, .unset, .unset] [(.ref b1766), (.ref b1766)]))) (fun t kt => ?_) ?_
      · show Steps p.tables e below (T1766.setTop (mkF m 167 #[.val (.int p0), .val (.int p1), .val (.int p2), .val (.int p3), .val (.int p4), .val (.int p5), .val (.int (Int32.ofNat ln)), .val (.int (Int32.ofNat n)), .val (.int v1691), .val (.int v1695), .val (.int v1699), .val (.int v1703), .val (.int v1707), .val (.int (0 : Int32)), .val (.int (1 : Int32)), .val (.int (Int32.ofNat dn1756)), .val (.int (Int32.ofNat dn1757)), .val (.int (Int32.ofNat dn1758)), .val (.int (Int32.ofNat dn1759)), .val (.int (Int32.ofNat dn1760)), .val (.ref b1761), .unset, .unset, .unset] [(.ref b1766)])) _
        refine XS.dup X1766.here hx rfl (own_hb hby at_167) rfl rfl ?_
        exact kt
      obtain ⟨_, _, ⟨T1780, L1780, k1780, n1780⟩, -, X1780, ⟨Lc1780, hQ1780, l1780, y1780, z1780⟩, st1780⟩ := X1766.specialBack hx (y := (⟨"com/example/quayside/quayside/Row", "<init>", "()V"⟩ : MethodName)) rfl hown (mvT hZ (hw _ (List.mem_of_getElem? (i := 8) rfl))) (mvT hZ (hw _ (List.mem_of_getElem? (i := 9) rfl))) (mvT hZ (hw _ (List.mem_of_getElem? (i := 10) rfl))) (by decide) (backOf (W := 1) (rm2 l Z a0 hw [] b1766 .null .null .null h1766 n0 z1771 A1766 f1772 f1773 f1774 f1777 f1776 f1775 f1778 f1779 gx1766) hZ (hw _ (List.mem_of_getElem? (i := 10) rfl)) (hw _ (List.mem_of_getElem? (i := 7) rfl)) (by decide) (by decide)) (g := (mkF m 168 #[.val (.int p0), .val (.int p1), .val (.int p2), .val (.int p3), .val (.int p4), .val (.int p5), .val (.int (Int32.ofNat ln)), .val (.int (Int32.ofNat n)), .val (.int v1691), .val (.int v1695), .val (.int v1699), .val (.int v1703), .val (.int v1707), .val (.int (0 : Int32)), .val (.int (1 : Int32)), .val (.int (Int32.ofNat dn1756)), .val (.int (Int32.ofNat dn1757)), .val (.int (Int32.ofNat dn1758)), .val (.int (Int32.ofNat dn1759)), .val (.int (Int32.ofNat dn1760)), .val (.ref b1761), .unset, .unset, .unset] [(.ref b1766), (.ref b1766)])) rfl (by rw [hml]; rfl) (Steps.refl _) (a := b1766) (argsL := []) (rest := [(.ref b1766)]) (lenOf pd_5 rfl) rfl (by show 2 * 0 + _ ≤ _; exact Nat.le_of_eq rfl) (own_hb hby at_168) (fun _ _ => ⟨rfl, e1766, (by decide : 2 + 3 ≤ _), (by decide : 15 + 8 ≤ _)⟩)
      dsimp only [Pt.U, Pt.locs, Pt.cells, Pt.slots] at X1780 l1780 y1780 z1780 st1780 hQ1780
      subst l1780 y1780 z1780
      obtain ⟨bs1780, rs1780, re1780, rfl, N1780q, K1780, p1780_0, p1780_1, p1780_2, p1780_3, p1780_4, p1780_5, p1780_6, p1780_7, p1780_8, p1780_9, p1780_10, p1780_11, p1780_12, p1780_13, p1780_14⟩ := hQ1780
      have N1780 := Fr.app N1760 N1780q
      refine own_Go.of (S' := (T1780.setTop (mkF m 171 #[.val (.int p0), .val (.int p1), .val (.int p2), .val (.int p3), .val (.int p4), .val (.int p5), .val (.int (Int32.ofNat ln)), .val (.int (Int32.ofNat n)), .val (.int v1691), .val (.int v1695), .val (.int v1699), .val (.int v1703), .val (.int v1707), .val (.int (0 : Int32)), .val (.int (1 : Int32)), .val (.int (Int32.ofNat dn1756)), .val (.int (Int32.ofNat dn1757)), .val (.int (Int32.ofNat dn1758)), .val (.int (Int32.ofNat dn1759)), .val (.int (Int32.ofNat dn1760)), .val (.ref b1761), .unset, .unset, .unset] [(.ref b1766)]))) (fun t kt => st1780.trans kt) ?_
      have gx1781 : n0 ≤ bs1780 := Nat.le_trans z1771 p1780_0
      have ne1782 : b1761 ≠ bs1780 := Nat.ne_of_lt (Nat.lt_of_lt_of_le f1769.lt p1780_0)
      have ne1783 : b1766 ≠ bs1780 := Nat.ne_of_lt (Nat.lt_of_lt_of_le A1766.lt p1780_0)
      have gx1784 : n0 ≤ rs1780 := Nat.le_trans z1771 p1780_1
      have ne1785 : b1761 ≠ rs1780 := Nat.ne_of_lt (Nat.lt_of_lt_of_le f1769.lt p1780_1)
      have ne1786 : b1766 ≠ rs1780 := Nat.ne_of_lt (Nat.lt_of_lt_of_le A1766.lt p1780_1)
      have gx1787 : n0 ≤ re1780 := Nat.le_trans z1771 p1780_2
      have ne1788 : b1761 ≠ re1780 := Nat.ne_of_lt (Nat.lt_of_lt_of_le f1769.lt p1780_2)
      have ne1789 : b1766 ≠ re1780 := Nat.ne_of_lt (Nat.lt_of_lt_of_le A1766.lt p1780_2)
      have hk1790 := Nat.le_trans hk1768 K1780.1
      have f1791 := f1769.keep K1780 (ninS ne1767 nin0)
      have f1792 := f1770.keep K1780
      have f1793 := A1766.keep K1780
      have z1794 := Nat.le_trans z1771 K1780.1
      refine own_Go.of (S' := (T1780.setTop (mkF m 183 #[.val (.int p0), .val (.int p1), .val (.int p2), .val (.int p3), .val (.int p4), .val (.int p5), .val (.int (Int32.ofNat ln)), .val (.int (Int32.ofNat n)), .val (.int v1691), .val (.int v1695), .val (.int v1699), .val (.int v1703), .val (.int v1707), .val (.int (0 : Int32)), .val (.int (1 : Int32)), .val (.int (Int32.ofNat dn1756)), .val (.int (Int32.ofNat dn1757)), .val (.int (Int32.ofNat dn1758)), .val (.int (Int32.ofNat dn1759)), .val (.int (Int32.ofNat dn1760)), .val (.ref b1761), .val (.ref b1766), .unset, .unset] [(.int (2147483647 : Int32)), (.int (0 : Int32)), (.ref b1766)]))) (fun t kt => ?_) ?_
      · show Steps p.tables e below (T1780.setTop (mkF m 171 #[.val (.int p0), .val (.int p1), .val (.int p2), .val (.int p3), .val (.int p4), .val (.int p5), .val (.int (Int32.ofNat ln)), .val (.int (Int32.ofNat n)), .val (.int v1691), .val (.int v1695), .val (.int v1699), .val (.int v1703), .val (.int v1707), .val (.int (0 : Int32)), .val (.int (1 : Int32)), .val (.int (Int32.ofNat dn1756)), .val (.int (Int32.ofNat dn1757)), .val (.int (Int32.ofNat dn1758)), .val (.int (Int32.ofNat dn1759)), .val (.int (Int32.ofNat dn1760)), .val (.ref b1761), .unset, .unset, .unset] [(.ref b1766)])) _
        refine XS.astore X1780.here hx rfl (own_hb hby at_171) rfl rfl (l' := #[.val (.int p0), .val (.int p1), .val (.int p2), .val (.int p3), .val (.int p4), .val (.int p5), .val (.int (Int32.ofNat ln)), .val (.int (Int32.ofNat n)), .val (.int v1691), .val (.int v1695), .val (.int v1699), .val (.int v1703), .val (.int v1707), .val (.int (0 : Int32)), .val (.int (1 : Int32)), .val (.int (Int32.ofNat dn1756)), .val (.int (Int32.ofNat dn1757)), .val (.int (Int32.ofNat dn1758)), .val (.int (Int32.ofNat dn1759)), .val (.int (Int32.ofNat dn1760)), .val (.ref b1761), .val (.ref b1766), .unset, .unset]) rfl ?_
        refine XS.iload X1780.here hx rfl (own_hb hby at_173) rfl ?_
        refine XS.ifNo X1780.here hx rfl (own_hb hby at_175) rfl ((if0 _ _).trans (feq (by decide : ¬ ((1 : Int32) = (0 : Int32)))).1) ?_
        refine XS.aload X1780.here hx rfl (own_hb hby at_178) rfl rfl ?_
        show Steps p.tables e below (T1780.setTop (mkF m 180 #[.val (.int p0), .val (.int p1), .val (.int p2), .val (.int p3), .val (.int p4), .val (.int p5), .val (.int (Int32.ofNat ln)), .val (.int (Int32.ofNat n)), .val (.int v1691), .val (.int v1695), .val (.int v1699), .val (.int v1703), .val (.int v1707), .val (.int (0 : Int32)), .val (.int (1 : Int32)), .val (.int (Int32.ofNat dn1756)), .val (.int (Int32.ofNat dn1757)), .val (.int (Int32.ofNat dn1758)), .val (.int (Int32.ofNat dn1759)), .val (.int (Int32.ofNat dn1760)), .val (.ref b1761), .val (.ref b1766), .unset, .unset] [(.ref b1766)])) _
        refine XS.iconst X1780.here hx rfl (own_hb hby at_180) ?_
        show Steps p.tables e below (T1780.setTop (mkF m 181 #[.val (.int p0), .val (.int p1), .val (.int p2), .val (.int p3), .val (.int p4), .val (.int p5), .val (.int (Int32.ofNat ln)), .val (.int (Int32.ofNat n)), .val (.int v1691), .val (.int v1695), .val (.int v1699), .val (.int v1703), .val (.int v1707), .val (.int (0 : Int32)), .val (.int (1 : Int32)), .val (.int (Int32.ofNat dn1756)), .val (.int (Int32.ofNat dn1757)), .val (.int (Int32.ofNat dn1758)), .val (.int (Int32.ofNat dn1759)), .val (.int (Int32.ofNat dn1760)), .val (.ref b1761), .val (.ref b1766), .unset, .unset] [(.int (0 : Int32)), (.ref b1766)])) _
        refine X1780.ldcInt hx hown (mvT hZ (hw _ (List.mem_of_getElem? (i := 87) rfl))) (g := (mkF m 181 #[.val (.int p0), .val (.int p1), .val (.int p2), .val (.int p3), .val (.int p4), .val (.int p5), .val (.int (Int32.ofNat ln)), .val (.int (Int32.ofNat n)), .val (.int v1691), .val (.int v1695), .val (.int v1699), .val (.int v1703), .val (.int v1707), .val (.int (0 : Int32)), .val (.int (1 : Int32)), .val (.int (Int32.ofNat dn1756)), .val (.int (Int32.ofNat dn1757)), .val (.int (Int32.ofNat dn1758)), .val (.int (Int32.ofNat dn1759)), .val (.int (Int32.ofNat dn1760)), .val (.ref b1761), .val (.ref b1766), .unset, .unset] [(.int (0 : Int32)), (.ref b1766)])) rfl (own_hb hby at_181) _ ?_
        exact kt
      obtain ⟨cq1795, kq1795, q1795a, q1795b, q1795c⟩ := isOf hZ rfl p1780_4
      obtain ⟨_, _, ⟨T1795, L1795, k1795, n1795⟩, -, X1795, ⟨Lc1795, hQ1795, l1795, y1795, z1795⟩, st1795⟩ := X1780.virtualBack hx (y := (⟨"com/example/quayside/quayside/Row", "add", "(II)V"⟩ : MethodName)) (z := (⟨"com/example/quayside/quayside/Row", "add", "(II)V"⟩ : MethodName)) hown (mvT hZ (hw _ (List.mem_of_getElem? (i := 51) rfl))) (mvT hZ (hw _ (List.mem_of_getElem? (i := 52) rfl))) (notFace_of_selects (args := #[]) (mvT hZ (hw _ (List.mem_of_getElem? (i := 54) rfl)))) (mvT hZ (hw _ (List.mem_of_getElem? (i := 54) rfl))) (mvT hZ (hw _ (List.mem_of_getElem? (i := 53) rfl))) (by decide) (backOf (W := 0) (rm8s l Z a0 hw [] b1766 0 (2147483647 : Int32) rs1780 re1780 0 4 (fun _ => (0 : Int32)) (fun _ => (0 : Int32)) (0 : Int32) (0 : Int32) bs1780 .null (0 : Int32) T1780.heap n0 z1794 p1780_4 p1780_6 p1780_7 p1780_8 p1780_9 p1780_10 p1780_5 p1780_11 p1780_12 p1780_13 p1780_14 gx1766 gx1784 gx1787 ne1786 ne1789 p1780_3 (by decide) (by decide) (by decide) (by decide)) hZ (hw _ (List.mem_of_getElem? (i := 55) rfl)) (hw _ (List.mem_of_getElem? (i := 7) rfl)) (by decide) (by decide)) q1795a q1795c (g := (mkF m 183 #[.val (.int p0), .val (.int p1), .val (.int p2), .val (.int p3), .val (.int p4), .val (.int p5), .val (.int (Int32.ofNat ln)), .val (.int (Int32.ofNat n)), .val (.int v1691), .val (.int v1695), .val (.int v1699), .val (.int v1703), .val (.int v1707), .val (.int (0 : Int32)), .val (.int (1 : Int32)), .val (.int (Int32.ofNat dn1756)), .val (.int (Int32.ofNat dn1757)), .val (.int (Int32.ofNat dn1758)), .val (.int (Int32.ofNat dn1759)), .val (.int (Int32.ofNat dn1760)), .val (.ref b1761), .val (.ref b1766), .unset, .unset] [(.int (2147483647 : Int32)), (.int (0 : Int32)), (.ref b1766)])) rfl (by rw [hml]; rfl) (Steps.refl _) (argsL := [(.int (0 : Int32)), (.int (2147483647 : Int32))]) (rest := []) (lenOf pd_2 rfl) rfl (by show 2 * 0 + _ ≤ _; exact Nat.le_of_eq rfl) (own_hb hby at_183) (fun _ _ => ⟨rfl, rfl, (by decide : 5 + 0 ≤ _), (by decide : 23 + 0 ≤ _)⟩)
      dsimp only [Pt.U, Pt.locs, Pt.cells, Pt.slots] at X1795 l1795 y1795 z1795 st1795 hQ1795
      subst l1795 y1795 z1795
      obtain ⟨rfl, N1795q, K1795, p1795_0, p1795_1, p1795_2, p1795_3, p1795_4, p1795_5, p1795_6, p1795_7, p1795_8, p1795_9, p1795_10⟩ := hQ1795
      have N1795 := Fr.app N1780 N1795q
      refine own_Go.of (S' := (T1795.setTop (mkF m 186 #[.val (.int p0), .val (.int p1), .val (.int p2), .val (.int p3), .val (.int p4), .val (.int p5), .val (.int (Int32.ofNat ln)), .val (.int (Int32.ofNat n)), .val (.int v1691), .val (.int v1695), .val (.int v1699), .val (.int v1703), .val (.int v1707), .val (.int (0 : Int32)), .val (.int (1 : Int32)), .val (.int (Int32.ofNat dn1756)), .val (.int (Int32.ofNat dn1757)), .val (.int (Int32.ofNat dn1758)), .val (.int (Int32.ofNat dn1759)), .val (.int (Int32.ofNat dn1760)), .val (.ref b1761), .val (.ref b1766), .unset, .unset] []))) (fun t kt => st1795.trans kt) ?_
      have hk1796 := Nat.le_trans hk1790 K1795.1
      have f1797 := f1791.keep K1795 (ninS ne1767 (ninS ne1785 (ninS ne1788 nin0)))
      have f1798 := f1792.keep K1795
      have f1799 := p1780_4.keep K1795
      have z1800 := Nat.le_trans z1794 K1795.1
      refine own_Go.of (S' := (T1795.setTop (mkF m 188 #[.val (.int p0), .val (.int p1), .val (.int p2), .val (.int p3), .val (.int p4), .val (.int p5), .val (.int (Int32.ofNat ln)), .val (.int (Int32.ofNat n)), .val (.int v1691), .val (.int v1695), .val (.int v1699), .val (.int v1703), .val (.int v1707), .val (.int (0 : Int32)), .val (.int (1 : Int32)), .val (.int (Int32.ofNat dn1756)), .val (.int (Int32.ofNat dn1757)), .val (.int (Int32.ofNat dn1758)), .val (.int (Int32.ofNat dn1759)), .val (.int (Int32.ofNat dn1760)), .val (.ref b1761), .val (.ref b1766), .unset, .unset] [(.ref b1766)]))) (fun t kt => ?_) ?_
      · show Steps p.tables e below (T1795.setTop (mkF m 186 #[.val (.int p0), .val (.int p1), .val (.int p2), .val (.int p3), .val (.int p4), .val (.int p5), .val (.int (Int32.ofNat ln)), .val (.int (Int32.ofNat n)), .val (.int v1691), .val (.int v1695), .val (.int v1699), .val (.int v1703), .val (.int v1707), .val (.int (0 : Int32)), .val (.int (1 : Int32)), .val (.int (Int32.ofNat dn1756)), .val (.int (Int32.ofNat dn1757)), .val (.int (Int32.ofNat dn1758)), .val (.int (Int32.ofNat dn1759)), .val (.int (Int32.ofNat dn1760)), .val (.ref b1761), .val (.ref b1766), .unset, .unset] [])) _
        refine XS.aload X1795.here hx rfl (own_hb hby at_186) rfl rfl ?_
        exact kt
      obtain ⟨cq1801, kq1801, q1801a, q1801b, q1801c⟩ := isOf hZ rfl p1795_0
      obtain ⟨_, _, ⟨T1801, L1801, k1801, n1801⟩, -, X1801, ⟨Lc1801, hQ1801, l1801, y1801, z1801⟩, st1801⟩ := X1795.virtualBack hx (y := (⟨"com/example/quayside/quayside/Row", "clear", "()V"⟩ : MethodName)) (z := (⟨"com/example/quayside/quayside/Row", "clear", "()V"⟩ : MethodName)) hown (mvT hZ (hw _ (List.mem_of_getElem? (i := 88) rfl))) (mvT hZ (hw _ (List.mem_of_getElem? (i := 89) rfl))) (notFace_of_selects (args := #[]) (mvT hZ (hw _ (List.mem_of_getElem? (i := 91) rfl)))) (mvT hZ (hw _ (List.mem_of_getElem? (i := 91) rfl))) (mvT hZ (hw _ (List.mem_of_getElem? (i := 90) rfl))) (by decide) (backOf (W := 0) (rm14 l Z a0 hw [] b1766 bs1780 rs1780 re1780 (.int (Int32.ofNat (0 + 1))) (.int (own_maxI (0 : Int32) (2147483647 : Int32))) (.int (0 : Int32)) T1795.heap n0 z1800 p1795_0 p1795_6 p1795_1 p1795_2 p1795_3 p1795_4 p1795_5 p1795_7 p1795_8 gx1766) hZ (hw _ (List.mem_of_getElem? (i := 92) rfl)) (hw _ (List.mem_of_getElem? (i := 7) rfl)) (by decide) (by decide)) q1801a q1801c (g := (mkF m 188 #[.val (.int p0), .val (.int p1), .val (.int p2), .val (.int p3), .val (.int p4), .val (.int p5), .val (.int (Int32.ofNat ln)), .val (.int (Int32.ofNat n)), .val (.int v1691), .val (.int v1695), .val (.int v1699), .val (.int v1703), .val (.int v1707), .val (.int (0 : Int32)), .val (.int (1 : Int32)), .val (.int (Int32.ofNat dn1756)), .val (.int (Int32.ofNat dn1757)), .val (.int (Int32.ofNat dn1758)), .val (.int (Int32.ofNat dn1759)), .val (.int (Int32.ofNat dn1760)), .val (.ref b1761), .val (.ref b1766), .unset, .unset] [(.ref b1766)])) rfl (by rw [hml]; rfl) (Steps.refl _) (argsL := []) (rest := []) (lenOf pd_5 rfl) rfl (by show 2 * 0 + _ ≤ _; exact Nat.le_of_eq rfl) (own_hb hby at_188) (fun _ _ => ⟨rfl, rfl, (by decide : 5 + 0 ≤ _), (by decide : 23 + 0 ≤ _)⟩)
      dsimp only [Pt.U, Pt.locs, Pt.cells, Pt.slots] at X1801 l1801 y1801 z1801 st1801 hQ1801
      subst l1801 y1801 z1801
      obtain ⟨rfl, N1801q, K1801, p1801_0, p1801_1, p1801_2, p1801_3, p1801_4, p1801_5, p1801_6, p1801_7, p1801_8⟩ := hQ1801
      have N1801 := Fr.app N1795 N1801q
      refine own_Go.of (S' := (T1801.setTop (mkF m 191 #[.val (.int p0), .val (.int p1), .val (.int p2), .val (.int p3), .val (.int p4), .val (.int p5), .val (.int (Int32.ofNat ln)), .val (.int (Int32.ofNat n)), .val (.int v1691), .val (.int v1695), .val (.int v1699), .val (.int v1703), .val (.int v1707), .val (.int (0 : Int32)), .val (.int (1 : Int32)), .val (.int (Int32.ofNat dn1756)), .val (.int (Int32.ofNat dn1757)), .val (.int (Int32.ofNat dn1758)), .val (.int (Int32.ofNat dn1759)), .val (.int (Int32.ofNat dn1760)), .val (.ref b1761), .val (.ref b1766), .unset, .unset] []))) (fun t kt => st1801.trans kt) ?_
      have hk1802 := Nat.le_trans hk1796 K1801.1
      have f1803 := f1797.keep K1801 (ninS ne1767 nin0)
      have f1804 := f1798.keep K1801
      have f1805 := p1795_0.keep K1801
      have f1806 := p1795_9.keep K1801 (ninS (Ne.symm ne1786) nin0)
      have f1807 := p1795_10.keep K1801 (ninS (Ne.symm ne1789) nin0)
      have z1808 := Nat.le_trans z1800 K1801.1
      have f1809 : Fld Z T1801.heap b1766 "com/example/quayside/quayside/Row" "size" "I" (.int (Int32.ofNat 0)) := p1801_4
      have rowL : own_Row Z T1801.heap n0 b1761 b1766 0 4 (own_D v1691 v1695 v1699 v1703 v1707 dn1756 dn1757 dn1758 dn1759 dn1760) bs1780 := ⟨rs1780, re1780, (own_set (fun _ => (0 : Int32)) 0 (Int32.ofNat 0)), (own_set (fun _ => (0 : Int32)) 0 (2147483647 : Int32)), (0 : Int32), (0 : Int32), p1801_0, p1801_2, p1801_3, f1809, p1801_5, p1801_6, p1801_1, f1806, f1807, gx1766, gx1784, gx1787, ne1786, ne1789, p1780_3, ne1767, ne1785, ne1788, (by decide), (Or.inl rfl), ⟨(fun i hi => absurd hi (Nat.not_lt_zero i)), own_Rch.zero⟩, Or.inl ⟨p1801_7, p1801_8⟩⟩
      refine own_Go.of (S' := (T1801.setTop (mkF m 200 #[.val (.int p0), .val (.int p1), .val (.int p2), .val (.int p3), .val (.int p4), .val (.int p5), .val (.int (Int32.ofNat ln)), .val (.int (Int32.ofNat n)), .val (.int v1691), .val (.int v1695), .val (.int v1699), .val (.int v1703), .val (.int v1707), .val (.int (0 : Int32)), .val (.int (1 : Int32)), .val (.int (Int32.ofNat dn1756)), .val (.int (Int32.ofNat dn1757)), .val (.int (Int32.ofNat dn1758)), .val (.int (Int32.ofNat dn1759)), .val (.int (Int32.ofNat dn1760)), .val (.ref b1761), .val (.ref b1766), .unset, .unset] [(.ref b1761), (.ref b1766)]))) (fun t kt => ?_) ?_
      · show Steps p.tables e below (T1801.setTop (mkF m 191 #[.val (.int p0), .val (.int p1), .val (.int p2), .val (.int p3), .val (.int p4), .val (.int p5), .val (.int (Int32.ofNat ln)), .val (.int (Int32.ofNat n)), .val (.int v1691), .val (.int v1695), .val (.int v1699), .val (.int v1703), .val (.int v1707), .val (.int (0 : Int32)), .val (.int (1 : Int32)), .val (.int (Int32.ofNat dn1756)), .val (.int (Int32.ofNat dn1757)), .val (.int (Int32.ofNat dn1758)), .val (.int (Int32.ofNat dn1759)), .val (.int (Int32.ofNat dn1760)), .val (.ref b1761), .val (.ref b1766), .unset, .unset] [])) _
        refine XS.iload X1801.here hx rfl (own_hb hby at_191) rfl ?_
        refine XS.ifNo X1801.here hx rfl (own_hb hby at_193) rfl ((if0 _ _).trans (teq (rfl : (0 : Int32) = (0 : Int32))).2) ?_
        refine XS.aload X1801.here hx rfl (own_hb hby at_196) rfl rfl ?_
        refine XS.aload X1801.here hx rfl (own_hb hby at_198) rfl rfl ?_
        exact kt
      obtain ⟨cq1810, kq1810, q1810a, q1810b, q1810c⟩ := isOf hZ rfl p1801_0
      obtain ⟨_, _, ⟨T1810, L1810, k1810, n1810⟩, -, X1810, hSn1810, hgr1810, ⟨Lc1810, hQ1810, l1810, y1810, z1810⟩, st1810⟩ := X1801.virtualBackS hx (y := (⟨"com/example/quayside/quayside/Row", "setBytes", "([B)V"⟩ : MethodName)) (z := (⟨"com/example/quayside/quayside/Row", "setBytes", "([B)V"⟩ : MethodName)) hown (mvT hZ (hw _ (List.mem_of_getElem? (i := 21) rfl))) (mvT hZ (hw _ (List.mem_of_getElem? (i := 22) rfl))) (notFace_of_selects (args := #[]) (mvT hZ (hw _ (List.mem_of_getElem? (i := 24) rfl)))) (mvT hZ (hw _ (List.mem_of_getElem? (i := 24) rfl))) (mvT hZ (hw _ (List.mem_of_getElem? (i := 23) rfl))) (by decide) (backOfS (W := 0) (rm4 l Z a0 hw [] b1766 b1761 0 4 (own_D v1691 v1695 v1699 v1703 v1707 dn1756 dn1757 dn1758 dn1759 dn1760) bs1780 ln (own_I (fun _ => (0 : Int32))) T1801.heap n0 z1808 rowL f1803 f1804) hZ (hw _ (List.mem_of_getElem? (i := 25) rfl)) (hw _ (List.mem_of_getElem? (i := 7) rfl)) (by decide) (by decide)) q1810a q1810c (g := (mkF m 200 #[.val (.int p0), .val (.int p1), .val (.int p2), .val (.int p3), .val (.int p4), .val (.int p5), .val (.int (Int32.ofNat ln)), .val (.int (Int32.ofNat n)), .val (.int v1691), .val (.int v1695), .val (.int v1699), .val (.int v1703), .val (.int v1707), .val (.int (0 : Int32)), .val (.int (1 : Int32)), .val (.int (Int32.ofNat dn1756)), .val (.int (Int32.ofNat dn1757)), .val (.int (Int32.ofNat dn1758)), .val (.int (Int32.ofNat dn1759)), .val (.int (Int32.ofNat dn1760)), .val (.ref b1761), .val (.ref b1766), .unset, .unset] [(.ref b1761), (.ref b1766)])) rfl (by rw [hml]; rfl) (Steps.refl _) (argsL := [(.ref b1761)]) (rest := []) (lenOf pd_8 rfl) rfl (by show 2 * 0 + _ ≤ _; exact Nat.le_of_eq rfl) (own_hb hby at_200) (fun _ _ => ⟨rfl, rfl, (by decide : 5 + 2 ≤ _), (by decide : 23 + 24 ≤ _)⟩)
      dsimp only [Pt.U, Pt.locs, Pt.cells, Pt.slots] at X1810 l1810 y1810 z1810 st1810 hQ1810 hSn1810 hgr1810
      subst l1810 y1810 z1810
      have hgq1810 : T1801.heap.size ≤ T1810.heap.size := by exact hgr1810
      obtain ⟨X1810, hS1810, hZ, hown⟩ := rebS (vm0 := s.vm) hS0 hk1802 X1810 hSn1810 hgq1810 hZ hown
      obtain ⟨rfl, N1810q, K1810, p1810_0⟩ := hQ1810
      have N1810 := Fr.app N1801 N1810q
      refine own_Go.of (S' := (T1810.setTop (mkF m 203 #[.val (.int p0), .val (.int p1), .val (.int p2), .val (.int p3), .val (.int p4), .val (.int p5), .val (.int (Int32.ofNat ln)), .val (.int (Int32.ofNat n)), .val (.int v1691), .val (.int v1695), .val (.int v1699), .val (.int v1703), .val (.int v1707), .val (.int (0 : Int32)), .val (.int (1 : Int32)), .val (.int (Int32.ofNat dn1756)), .val (.int (Int32.ofNat dn1757)), .val (.int (Int32.ofNat dn1758)), .val (.int (Int32.ofNat dn1759)), .val (.int (Int32.ofNat dn1760)), .val (.ref b1761), .val (.ref b1766), .unset, .unset] []))) (fun t kt => st1810.trans kt) ?_
      have f1811 := f1803.kx K1810
      have f1812 := own_Ek f1804 K1810
      have z1813 := Nat.le_trans z1808 K1810.1
      exact seg203e (vm0 := T1810.vm) hw hx hZ hS1810 hby hml hret hlk hown hnm p0 p1 p2 p3 p4 p5 h0 n0 ln n v1691 v1695 v1699 v1703 v1707 (1 : Int32) dn1756 dn1757 dn1758 dn1759 dn1760 b1761 b1766 4 (own_D v1691 v1695 v1699 v1703 v1707 dn1756 dn1757 dn1758 dn1759 dn1760) (own_I (fun _ => (0 : Int32))) (own_mono X1810 (by decide) (by decide)) rfl N1810 z1813 p1810_0 f1811 f1812 hln hn hbbv1691 hbbv1695 hbbv1699 hbbv1703 hbbv1707 p1756_0 p1757_0 p1758_0 p1759_0 p1760_0 (fun _ => rfl) (fun _ => rfl) (fun _ => rfl) (fun _ => rfl) (fun _ => rfl) (Nat.le_refl _)
  · skip
    refine own_Go.of (S' := (T0.setTop (mkF m 114 #[.val (.int p0), .val (.int p1), .val (.int p2), .val (.int p3), .val (.int p4), .val (.int p5), .val (.int (Int32.ofNat ln)), .val (.int (Int32.ofNat n)), .val (.int v1691), .val (.int v1695), .val (.int v1699), .val (.int v1703), .val (.int v1707), .val (.int (1 : Int32)), .unset, .unset, .unset, .unset, .unset, .unset, .unset, .unset, .unset, .unset] [(.int (((p0.toUInt32 >>> ((9 : Int32) &&& 31).toUInt32).toInt32) &&& (1 : Int32)))]))) (fun t kt => ?_) ?_
    · show Steps p.tables e below (T0.setTop (mkF m 98 #[.val (.int p0), .val (.int p1), .val (.int p2), .val (.int p3), .val (.int p4), .val (.int p5), .val (.int (Int32.ofNat ln)), .val (.int (Int32.ofNat n)), .val (.int v1691), .val (.int v1695), .val (.int v1699), .val (.int v1703), .val (.int v1707), .unset, .unset, .unset, .unset, .unset, .unset, .unset, .unset, .unset, .unset, .unset] [(.int (((p0.toUInt32 >>> ((8 : Int32) &&& 31).toUInt32).toInt32) &&& (1 : Int32)))])) _
      refine XS.ifNo X0.here hx rfl (own_hb hby at_98) rfl ((if0 _ _).trans (feq hc98_1710).1) ?_
      refine XS.iconst X0.here hx rfl (own_hb hby at_101) ?_
      refine XS.goto X0.here hx rfl (pc0 := 102) (pc' := 106) rfl (own_hb hby at_102) (by decide) (by decide) ?_
      refine XS.istore X0.here hx rfl (own_hb hby at_106) rfl (l' := #[.val (.int p0), .val (.int p1), .val (.int p2), .val (.int p3), .val (.int p4), .val (.int p5), .val (.int (Int32.ofNat ln)), .val (.int (Int32.ofNat n)), .val (.int v1691), .val (.int v1695), .val (.int v1699), .val (.int v1703), .val (.int v1707), .val (.int (1 : Int32)), .unset, .unset, .unset, .unset, .unset, .unset, .unset, .unset, .unset, .unset]) rfl ?_
      show Steps p.tables e below (T0.setTop (mkF m 108 #[.val (.int p0), .val (.int p1), .val (.int p2), .val (.int p3), .val (.int p4), .val (.int p5), .val (.int (Int32.ofNat ln)), .val (.int (Int32.ofNat n)), .val (.int v1691), .val (.int v1695), .val (.int v1699), .val (.int v1703), .val (.int v1707), .val (.int (1 : Int32)), .unset, .unset, .unset, .unset, .unset, .unset, .unset, .unset, .unset, .unset] [])) _
      refine XS.iloadN X0.here hx rfl (own_hb hby at_108) rfl ?_
      refine XS.bipush X0.here hx rfl (own_hb hby at_109) ?_
      refine XS.iushr X0.here hx rfl (own_hb hby at_111) rfl ?_
      refine XS.iconst X0.here hx rfl (own_hb hby at_112) ?_
      show Steps p.tables e below (T0.setTop (mkF m 113 #[.val (.int p0), .val (.int p1), .val (.int p2), .val (.int p3), .val (.int p4), .val (.int p5), .val (.int (Int32.ofNat ln)), .val (.int (Int32.ofNat n)), .val (.int v1691), .val (.int v1695), .val (.int v1699), .val (.int v1703), .val (.int v1707), .val (.int (1 : Int32)), .unset, .unset, .unset, .unset, .unset, .unset, .unset, .unset, .unset, .unset] [(.int (1 : Int32)), (.int ((p0.toUInt32 >>> ((9 : Int32) &&& 31).toUInt32).toInt32))])) _
      refine XS.iand X0.here hx rfl (own_hb hby at_113) rfl ?_
      exact kt
    by_cases hc114_1814 : (((p0.toUInt32 >>> ((9 : Int32) &&& 31).toUInt32).toInt32) &&& (1 : Int32)) = (0 : Int32)
    · skip
      refine own_Go.of (S' := (T0.setTop (mkF m 125 #[.val (.int p0), .val (.int p1), .val (.int p2), .val (.int p3), .val (.int p4), .val (.int p5), .val (.int (Int32.ofNat ln)), .val (.int (Int32.ofNat n)), .val (.int v1691), .val (.int v1695), .val (.int v1699), .val (.int v1703), .val (.int v1707), .val (.int (1 : Int32)), .val (.int (0 : Int32)), .unset, .unset, .unset, .unset, .unset, .unset, .unset, .unset, .unset] [(.int p2)]))) (fun t kt => ?_) ?_
      · show Steps p.tables e below (T0.setTop (mkF m 114 #[.val (.int p0), .val (.int p1), .val (.int p2), .val (.int p3), .val (.int p4), .val (.int p5), .val (.int (Int32.ofNat ln)), .val (.int (Int32.ofNat n)), .val (.int v1691), .val (.int v1695), .val (.int v1699), .val (.int v1703), .val (.int v1707), .val (.int (1 : Int32)), .unset, .unset, .unset, .unset, .unset, .unset, .unset, .unset, .unset, .unset] [(.int (((p0.toUInt32 >>> ((9 : Int32) &&& 31).toUInt32).toInt32) &&& (1 : Int32)))])) _
        refine XS.ifYes X0.here hx rfl (pc0 := 114) (pc' := 121) rfl (own_hb hby at_114) rfl ((if0 _ _).trans (teq hc114_1814).1) (by decide) (by decide) ?_
        refine XS.iconst X0.here hx rfl (own_hb hby at_121) ?_
        refine XS.istore X0.here hx rfl (own_hb hby at_122) rfl (l' := #[.val (.int p0), .val (.int p1), .val (.int p2), .val (.int p3), .val (.int p4), .val (.int p5), .val (.int (Int32.ofNat ln)), .val (.int (Int32.ofNat n)), .val (.int v1691), .val (.int v1695), .val (.int v1699), .val (.int v1703), .val (.int v1707), .val (.int (1 : Int32)), .val (.int (0 : Int32)), .unset, .unset, .unset, .unset, .unset, .unset, .unset, .unset, .unset]) rfl ?_
        refine XS.iloadN X0.here hx rfl (own_hb hby at_124) rfl ?_
        exact kt
      obtain ⟨_, _, ⟨T1815, L1815, k1815, n1815⟩, -, X1815, ⟨Lc1815, hQ1815, l1815, y1815, z1815⟩, st1815⟩ := Jvm.LawKit.callS X0 hx (y := (⟨"com/example/quayside/quayside/RowBeyondBytesPinLaw", "end", "(I)I"⟩ : MethodName)) hown (mvT hZ (hw _ (List.mem_of_getElem? (i := 0) rfl))) (mvT hZ (hw _ (List.mem_of_getElem? (i := 1) rfl))) (mvT hZ (hw _ (List.mem_of_getElem? (i := 2) rfl))) (mvT hZ (hw _ (List.mem_of_getElem? (i := 3) rfl))) (by decide) (backOf (W := 0) (rm1 l Z a0 hw [] p2 h0 n0 Z0 ) hZ (hw _ (List.mem_of_getElem? (i := 3) rfl)) (hw _ (List.mem_of_getElem? (i := 2) rfl)) (by decide) (by decide)) (g := (mkF m 125 #[.val (.int p0), .val (.int p1), .val (.int p2), .val (.int p3), .val (.int p4), .val (.int p5), .val (.int (Int32.ofNat ln)), .val (.int (Int32.ofNat n)), .val (.int v1691), .val (.int v1695), .val (.int v1699), .val (.int v1703), .val (.int v1707), .val (.int (1 : Int32)), .val (.int (0 : Int32)), .unset, .unset, .unset, .unset, .unset, .unset, .unset, .unset, .unset] [(.int p2)])) rfl (by rw [hml]; rfl) (argsL := [(.int p2)]) (rest := []) (lenOf pd_9 rfl) rfl (by show 2 * 0 + _ ≤ _; exact Nat.le_of_eq rfl) (own_hb hby at_125) (fun _ _ => ⟨rfl, e0, (by decide : 0 + 0 ≤ _), (by decide : 0 + 0 ≤ _)⟩)
      dsimp only [Pt.U, Pt.locs, Pt.cells, Pt.slots] at X1815 l1815 y1815 z1815 st1815 hQ1815
      subst l1815 y1815 z1815
      obtain ⟨dn1815, rfl, N1815q, hh1815, p1815_0⟩ := hQ1815
      have N1815 := Fr.app N0 N1815q
      refine own_Go.of (S' := (T1815.setTop (mkF m 128 #[.val (.int p0), .val (.int p1), .val (.int p2), .val (.int p3), .val (.int p4), .val (.int p5), .val (.int (Int32.ofNat ln)), .val (.int (Int32.ofNat n)), .val (.int v1691), .val (.int v1695), .val (.int v1699), .val (.int v1703), .val (.int v1707), .val (.int (1 : Int32)), .val (.int (0 : Int32)), .unset, .unset, .unset, .unset, .unset, .unset, .unset, .unset, .unset] [(.int (Int32.ofNat dn1815))]))) (fun t kt => st1815 t kt) ?_
      refine own_Go.of (S' := (T1815.setTop (mkF m 131 #[.val (.int p0), .val (.int p1), .val (.int p2), .val (.int p3), .val (.int p4), .val (.int p5), .val (.int (Int32.ofNat ln)), .val (.int (Int32.ofNat n)), .val (.int v1691), .val (.int v1695), .val (.int v1699), .val (.int v1703), .val (.int v1707), .val (.int (1 : Int32)), .val (.int (0 : Int32)), .val (.int (Int32.ofNat dn1815)), .unset, .unset, .unset, .unset, .unset, .unset, .unset, .unset] [(.int p3)]))) (fun t kt => ?_) ?_
      · show Steps p.tables e below (T1815.setTop (mkF m 128 #[.val (.int p0), .val (.int p1), .val (.int p2), .val (.int p3), .val (.int p4), .val (.int p5), .val (.int (Int32.ofNat ln)), .val (.int (Int32.ofNat n)), .val (.int v1691), .val (.int v1695), .val (.int v1699), .val (.int v1703), .val (.int v1707), .val (.int (1 : Int32)), .val (.int (0 : Int32)), .unset, .unset, .unset, .unset, .unset, .unset, .unset, .unset, .unset] [(.int (Int32.ofNat dn1815))])) _
        refine XS.istore X1815.here hx rfl (own_hb hby at_128) rfl (l' := #[.val (.int p0), .val (.int p1), .val (.int p2), .val (.int p3), .val (.int p4), .val (.int p5), .val (.int (Int32.ofNat ln)), .val (.int (Int32.ofNat n)), .val (.int v1691), .val (.int v1695), .val (.int v1699), .val (.int v1703), .val (.int v1707), .val (.int (1 : Int32)), .val (.int (0 : Int32)), .val (.int (Int32.ofNat dn1815)), .unset, .unset, .unset, .unset, .unset, .unset, .unset, .unset]) rfl ?_
        refine XS.iloadN X1815.here hx rfl (own_hb hby at_130) rfl ?_
        exact kt
      obtain ⟨_, _, ⟨T1816, L1816, k1816, n1816⟩, -, X1816, ⟨Lc1816, hQ1816, l1816, y1816, z1816⟩, st1816⟩ := Jvm.LawKit.callS X1815 hx (y := (⟨"com/example/quayside/quayside/RowBeyondBytesPinLaw", "end", "(I)I"⟩ : MethodName)) hown (mvT hZ (hw _ (List.mem_of_getElem? (i := 0) rfl))) (mvT hZ (hw _ (List.mem_of_getElem? (i := 1) rfl))) (mvT hZ (hw _ (List.mem_of_getElem? (i := 2) rfl))) (mvT hZ (hw _ (List.mem_of_getElem? (i := 3) rfl))) (by decide) (backOf (W := 0) (rm1 l Z a0 hw [] p3 h0 n0 Z0 ) hZ (hw _ (List.mem_of_getElem? (i := 3) rfl)) (hw _ (List.mem_of_getElem? (i := 2) rfl)) (by decide) (by decide)) (g := (mkF m 131 #[.val (.int p0), .val (.int p1), .val (.int p2), .val (.int p3), .val (.int p4), .val (.int p5), .val (.int (Int32.ofNat ln)), .val (.int (Int32.ofNat n)), .val (.int v1691), .val (.int v1695), .val (.int v1699), .val (.int v1703), .val (.int v1707), .val (.int (1 : Int32)), .val (.int (0 : Int32)), .val (.int (Int32.ofNat dn1815)), .unset, .unset, .unset, .unset, .unset, .unset, .unset, .unset] [(.int p3)])) rfl (by rw [hml]; rfl) (argsL := [(.int p3)]) (rest := []) (lenOf pd_9 rfl) rfl (by show 2 * 0 + _ ≤ _; exact Nat.le_of_eq rfl) (own_hb hby at_131) (fun _ _ => ⟨rfl, hh1815, (by decide : 0 + 0 ≤ _), (by decide : 0 + 0 ≤ _)⟩)
      dsimp only [Pt.U, Pt.locs, Pt.cells, Pt.slots] at X1816 l1816 y1816 z1816 st1816 hQ1816
      subst l1816 y1816 z1816
      obtain ⟨dn1816, rfl, N1816q, hh1816, p1816_0⟩ := hQ1816
      have N1816 := Fr.app N1815 N1816q
      refine own_Go.of (S' := (T1816.setTop (mkF m 134 #[.val (.int p0), .val (.int p1), .val (.int p2), .val (.int p3), .val (.int p4), .val (.int p5), .val (.int (Int32.ofNat ln)), .val (.int (Int32.ofNat n)), .val (.int v1691), .val (.int v1695), .val (.int v1699), .val (.int v1703), .val (.int v1707), .val (.int (1 : Int32)), .val (.int (0 : Int32)), .val (.int (Int32.ofNat dn1815)), .unset, .unset, .unset, .unset, .unset, .unset, .unset, .unset] [(.int (Int32.ofNat dn1816))]))) (fun t kt => st1816 t kt) ?_
      refine own_Go.of (S' := (T1816.setTop (mkF m 138 #[.val (.int p0), .val (.int p1), .val (.int p2), .val (.int p3), .val (.int p4), .val (.int p5), .val (.int (Int32.ofNat ln)), .val (.int (Int32.ofNat n)), .val (.int v1691), .val (.int v1695), .val (.int v1699), .val (.int v1703), .val (.int v1707), .val (.int (1 : Int32)), .val (.int (0 : Int32)), .val (.int (Int32.ofNat dn1815)), .val (.int (Int32.ofNat dn1816)), .unset, .unset, .unset, .unset, .unset, .unset, .unset] [(.int p4)]))) (fun t kt => ?_) ?_
      · show Steps p.tables e below (T1816.setTop (mkF m 134 #[.val (.int p0), .val (.int p1), .val (.int p2), .val (.int p3), .val (.int p4), .val (.int p5), .val (.int (Int32.ofNat ln)), .val (.int (Int32.ofNat n)), .val (.int v1691), .val (.int v1695), .val (.int v1699), .val (.int v1703), .val (.int v1707), .val (.int (1 : Int32)), .val (.int (0 : Int32)), .val (.int (Int32.ofNat dn1815)), .unset, .unset, .unset, .unset, .unset, .unset, .unset, .unset] [(.int (Int32.ofNat dn1816))])) _
        refine XS.istore X1816.here hx rfl (own_hb hby at_134) rfl (l' := #[.val (.int p0), .val (.int p1), .val (.int p2), .val (.int p3), .val (.int p4), .val (.int p5), .val (.int (Int32.ofNat ln)), .val (.int (Int32.ofNat n)), .val (.int v1691), .val (.int v1695), .val (.int v1699), .val (.int v1703), .val (.int v1707), .val (.int (1 : Int32)), .val (.int (0 : Int32)), .val (.int (Int32.ofNat dn1815)), .val (.int (Int32.ofNat dn1816)), .unset, .unset, .unset, .unset, .unset, .unset, .unset]) rfl ?_
        refine XS.iload X1816.here hx rfl (own_hb hby at_136) rfl ?_
        exact kt
      obtain ⟨_, _, ⟨T1817, L1817, k1817, n1817⟩, -, X1817, ⟨Lc1817, hQ1817, l1817, y1817, z1817⟩, st1817⟩ := Jvm.LawKit.callS X1816 hx (y := (⟨"com/example/quayside/quayside/RowBeyondBytesPinLaw", "end", "(I)I"⟩ : MethodName)) hown (mvT hZ (hw _ (List.mem_of_getElem? (i := 0) rfl))) (mvT hZ (hw _ (List.mem_of_getElem? (i := 1) rfl))) (mvT hZ (hw _ (List.mem_of_getElem? (i := 2) rfl))) (mvT hZ (hw _ (List.mem_of_getElem? (i := 3) rfl))) (by decide) (backOf (W := 0) (rm1 l Z a0 hw [] p4 h0 n0 Z0 ) hZ (hw _ (List.mem_of_getElem? (i := 3) rfl)) (hw _ (List.mem_of_getElem? (i := 2) rfl)) (by decide) (by decide)) (g := (mkF m 138 #[.val (.int p0), .val (.int p1), .val (.int p2), .val (.int p3), .val (.int p4), .val (.int p5), .val (.int (Int32.ofNat ln)), .val (.int (Int32.ofNat n)), .val (.int v1691), .val (.int v1695), .val (.int v1699), .val (.int v1703), .val (.int v1707), .val (.int (1 : Int32)), .val (.int (0 : Int32)), .val (.int (Int32.ofNat dn1815)), .val (.int (Int32.ofNat dn1816)), .unset, .unset, .unset, .unset, .unset, .unset, .unset] [(.int p4)])) rfl (by rw [hml]; rfl) (argsL := [(.int p4)]) (rest := []) (lenOf pd_9 rfl) rfl (by show 2 * 0 + _ ≤ _; exact Nat.le_of_eq rfl) (own_hb hby at_138) (fun _ _ => ⟨rfl, hh1816, (by decide : 0 + 0 ≤ _), (by decide : 0 + 0 ≤ _)⟩)
      dsimp only [Pt.U, Pt.locs, Pt.cells, Pt.slots] at X1817 l1817 y1817 z1817 st1817 hQ1817
      subst l1817 y1817 z1817
      obtain ⟨dn1817, rfl, N1817q, hh1817, p1817_0⟩ := hQ1817
      have N1817 := Fr.app N1816 N1817q
      refine own_Go.of (S' := (T1817.setTop (mkF m 141 #[.val (.int p0), .val (.int p1), .val (.int p2), .val (.int p3), .val (.int p4), .val (.int p5), .val (.int (Int32.ofNat ln)), .val (.int (Int32.ofNat n)), .val (.int v1691), .val (.int v1695), .val (.int v1699), .val (.int v1703), .val (.int v1707), .val (.int (1 : Int32)), .val (.int (0 : Int32)), .val (.int (Int32.ofNat dn1815)), .val (.int (Int32.ofNat dn1816)), .unset, .unset, .unset, .unset, .unset, .unset, .unset] [(.int (Int32.ofNat dn1817))]))) (fun t kt => st1817 t kt) ?_
      refine own_Go.of (S' := (T1817.setTop (mkF m 145 #[.val (.int p0), .val (.int p1), .val (.int p2), .val (.int p3), .val (.int p4), .val (.int p5), .val (.int (Int32.ofNat ln)), .val (.int (Int32.ofNat n)), .val (.int v1691), .val (.int v1695), .val (.int v1699), .val (.int v1703), .val (.int v1707), .val (.int (1 : Int32)), .val (.int (0 : Int32)), .val (.int (Int32.ofNat dn1815)), .val (.int (Int32.ofNat dn1816)), .val (.int (Int32.ofNat dn1817)), .unset, .unset, .unset, .unset, .unset, .unset] [(.int p5)]))) (fun t kt => ?_) ?_
      · show Steps p.tables e below (T1817.setTop (mkF m 141 #[.val (.int p0), .val (.int p1), .val (.int p2), .val (.int p3), .val (.int p4), .val (.int p5), .val (.int (Int32.ofNat ln)), .val (.int (Int32.ofNat n)), .val (.int v1691), .val (.int v1695), .val (.int v1699), .val (.int v1703), .val (.int v1707), .val (.int (1 : Int32)), .val (.int (0 : Int32)), .val (.int (Int32.ofNat dn1815)), .val (.int (Int32.ofNat dn1816)), .unset, .unset, .unset, .unset, .unset, .unset, .unset] [(.int (Int32.ofNat dn1817))])) _
        refine XS.istore X1817.here hx rfl (own_hb hby at_141) rfl (l' := #[.val (.int p0), .val (.int p1), .val (.int p2), .val (.int p3), .val (.int p4), .val (.int p5), .val (.int (Int32.ofNat ln)), .val (.int (Int32.ofNat n)), .val (.int v1691), .val (.int v1695), .val (.int v1699), .val (.int v1703), .val (.int v1707), .val (.int (1 : Int32)), .val (.int (0 : Int32)), .val (.int (Int32.ofNat dn1815)), .val (.int (Int32.ofNat dn1816)), .val (.int (Int32.ofNat dn1817)), .unset, .unset, .unset, .unset, .unset, .unset]) rfl ?_
        refine XS.iload X1817.here hx rfl (own_hb hby at_143) rfl ?_
        exact kt
      obtain ⟨_, _, ⟨T1818, L1818, k1818, n1818⟩, -, X1818, ⟨Lc1818, hQ1818, l1818, y1818, z1818⟩, st1818⟩ := Jvm.LawKit.callS X1817 hx (y := (⟨"com/example/quayside/quayside/RowBeyondBytesPinLaw", "end", "(I)I"⟩ : MethodName)) hown (mvT hZ (hw _ (List.mem_of_getElem? (i := 0) rfl))) (mvT hZ (hw _ (List.mem_of_getElem? (i := 1) rfl))) (mvT hZ (hw _ (List.mem_of_getElem? (i := 2) rfl))) (mvT hZ (hw _ (List.mem_of_getElem? (i := 3) rfl))) (by decide) (backOf (W := 0) (rm1 l Z a0 hw [] p5 h0 n0 Z0 ) hZ (hw _ (List.mem_of_getElem? (i := 3) rfl)) (hw _ (List.mem_of_getElem? (i := 2) rfl)) (by decide) (by decide)) (g := (mkF m 145 #[.val (.int p0), .val (.int p1), .val (.int p2), .val (.int p3), .val (.int p4), .val (.int p5), .val (.int (Int32.ofNat ln)), .val (.int (Int32.ofNat n)), .val (.int v1691), .val (.int v1695), .val (.int v1699), .val (.int v1703), .val (.int v1707), .val (.int (1 : Int32)), .val (.int (0 : Int32)), .val (.int (Int32.ofNat dn1815)), .val (.int (Int32.ofNat dn1816)), .val (.int (Int32.ofNat dn1817)), .unset, .unset, .unset, .unset, .unset, .unset] [(.int p5)])) rfl (by rw [hml]; rfl) (argsL := [(.int p5)]) (rest := []) (lenOf pd_9 rfl) rfl (by show 2 * 0 + _ ≤ _; exact Nat.le_of_eq rfl) (own_hb hby at_145) (fun _ _ => ⟨rfl, hh1817, (by decide : 0 + 0 ≤ _), (by decide : 0 + 0 ≤ _)⟩)
      dsimp only [Pt.U, Pt.locs, Pt.cells, Pt.slots] at X1818 l1818 y1818 z1818 st1818 hQ1818
      subst l1818 y1818 z1818
      obtain ⟨dn1818, rfl, N1818q, hh1818, p1818_0⟩ := hQ1818
      have N1818 := Fr.app N1817 N1818q
      refine own_Go.of (S' := (T1818.setTop (mkF m 148 #[.val (.int p0), .val (.int p1), .val (.int p2), .val (.int p3), .val (.int p4), .val (.int p5), .val (.int (Int32.ofNat ln)), .val (.int (Int32.ofNat n)), .val (.int v1691), .val (.int v1695), .val (.int v1699), .val (.int v1703), .val (.int v1707), .val (.int (1 : Int32)), .val (.int (0 : Int32)), .val (.int (Int32.ofNat dn1815)), .val (.int (Int32.ofNat dn1816)), .val (.int (Int32.ofNat dn1817)), .unset, .unset, .unset, .unset, .unset, .unset] [(.int (Int32.ofNat dn1818))]))) (fun t kt => st1818 t kt) ?_
      refine own_Go.of (S' := (T1818.setTop (mkF m 153 #[.val (.int p0), .val (.int p1), .val (.int p2), .val (.int p3), .val (.int p4), .val (.int p5), .val (.int (Int32.ofNat ln)), .val (.int (Int32.ofNat n)), .val (.int v1691), .val (.int v1695), .val (.int v1699), .val (.int v1703), .val (.int v1707), .val (.int (1 : Int32)), .val (.int (0 : Int32)), .val (.int (Int32.ofNat dn1815)), .val (.int (Int32.ofNat dn1816)), .val (.int (Int32.ofNat dn1817)), .val (.int (Int32.ofNat dn1818)), .unset, .unset, .unset, .unset, .unset] [(.int (p1 >>> ((3 : Int32) &&& 31)))]))) (fun t kt => ?_) ?_
      · show Steps p.tables e below (T1818.setTop (mkF m 148 #[.val (.int p0), .val (.int p1), .val (.int p2), .val (.int p3), .val (.int p4), .val (.int p5), .val (.int (Int32.ofNat ln)), .val (.int (Int32.ofNat n)), .val (.int v1691), .val (.int v1695), .val (.int v1699), .val (.int v1703), .val (.int v1707), .val (.int (1 : Int32)), .val (.int (0 : Int32)), .val (.int (Int32.ofNat dn1815)), .val (.int (Int32.ofNat dn1816)), .val (.int (Int32.ofNat dn1817)), .unset, .unset, .unset, .unset, .unset, .unset] [(.int (Int32.ofNat dn1818))])) _
        refine XS.istore X1818.here hx rfl (own_hb hby at_148) rfl (l' := #[.val (.int p0), .val (.int p1), .val (.int p2), .val (.int p3), .val (.int p4), .val (.int p5), .val (.int (Int32.ofNat ln)), .val (.int (Int32.ofNat n)), .val (.int v1691), .val (.int v1695), .val (.int v1699), .val (.int v1703), .val (.int v1707), .val (.int (1 : Int32)), .val (.int (0 : Int32)), .val (.int (Int32.ofNat dn1815)), .val (.int (Int32.ofNat dn1816)), .val (.int (Int32.ofNat dn1817)), .val (.int (Int32.ofNat dn1818)), .unset, .unset, .unset, .unset, .unset]) rfl ?_
        refine XS.iloadN X1818.here hx rfl (own_hb hby at_150) rfl ?_
        refine XS.iconst X1818.here hx rfl (own_hb hby at_151) ?_
        refine XS.ishr X1818.here hx rfl (own_hb hby at_152) rfl ?_
        exact kt
      obtain ⟨_, _, ⟨T1819, L1819, k1819, n1819⟩, -, X1819, ⟨Lc1819, hQ1819, l1819, y1819, z1819⟩, st1819⟩ := Jvm.LawKit.callS X1818 hx (y := (⟨"com/example/quayside/quayside/RowBeyondBytesPinLaw", "end", "(I)I"⟩ : MethodName)) hown (mvT hZ (hw _ (List.mem_of_getElem? (i := 0) rfl))) (mvT hZ (hw _ (List.mem_of_getElem? (i := 1) rfl))) (mvT hZ (hw _ (List.mem_of_getElem? (i := 2) rfl))) (mvT hZ (hw _ (List.mem_of_getElem? (i := 3) rfl))) (by decide) (backOf (W := 0) (rm1 l Z a0 hw [] (p1 >>> ((3 : Int32) &&& 31)) h0 n0 Z0 ) hZ (hw _ (List.mem_of_getElem? (i := 3) rfl)) (hw _ (List.mem_of_getElem? (i := 2) rfl)) (by decide) (by decide)) (g := (mkF m 153 #[.val (.int p0), .val (.int p1), .val (.int p2), .val (.int p3), .val (.int p4), .val (.int p5), .val (.int (Int32.ofNat ln)), .val (.int (Int32.ofNat n)), .val (.int v1691), .val (.int v1695), .val (.int v1699), .val (.int v1703), .val (.int v1707), .val (.int (1 : Int32)), .val (.int (0 : Int32)), .val (.int (Int32.ofNat dn1815)), .val (.int (Int32.ofNat dn1816)), .val (.int (Int32.ofNat dn1817)), .val (.int (Int32.ofNat dn1818)), .unset, .unset, .unset, .unset, .unset] [(.int (p1 >>> ((3 : Int32) &&& 31)))])) rfl (by rw [hml]; rfl) (argsL := [(.int (p1 >>> ((3 : Int32) &&& 31)))]) (rest := []) (lenOf pd_9 rfl) rfl (by show 2 * 0 + _ ≤ _; exact Nat.le_of_eq rfl) (own_hb hby at_153) (fun _ _ => ⟨rfl, hh1818, (by decide : 0 + 0 ≤ _), (by decide : 0 + 0 ≤ _)⟩)
      dsimp only [Pt.U, Pt.locs, Pt.cells, Pt.slots] at X1819 l1819 y1819 z1819 st1819 hQ1819
      subst l1819 y1819 z1819
      obtain ⟨dn1819, rfl, N1819q, hh1819, p1819_0⟩ := hQ1819
      have N1819 := Fr.app N1818 N1819q
      refine own_Go.of (S' := (T1819.setTop (mkF m 156 #[.val (.int p0), .val (.int p1), .val (.int p2), .val (.int p3), .val (.int p4), .val (.int p5), .val (.int (Int32.ofNat ln)), .val (.int (Int32.ofNat n)), .val (.int v1691), .val (.int v1695), .val (.int v1699), .val (.int v1703), .val (.int v1707), .val (.int (1 : Int32)), .val (.int (0 : Int32)), .val (.int (Int32.ofNat dn1815)), .val (.int (Int32.ofNat dn1816)), .val (.int (Int32.ofNat dn1817)), .val (.int (Int32.ofNat dn1818)), .unset, .unset, .unset, .unset, .unset] [(.int (Int32.ofNat dn1819))]))) (fun t kt => st1819 t kt) ?_
      refine own_Go.of (S' := (T1819.setTop (mkF m 160 #[.val (.int p0), .val (.int p1), .val (.int p2), .val (.int p3), .val (.int p4), .val (.int p5), .val (.int (Int32.ofNat ln)), .val (.int (Int32.ofNat n)), .val (.int v1691), .val (.int v1695), .val (.int v1699), .val (.int v1703), .val (.int v1707), .val (.int (1 : Int32)), .val (.int (0 : Int32)), .val (.int (Int32.ofNat dn1815)), .val (.int (Int32.ofNat dn1816)), .val (.int (Int32.ofNat dn1817)), .val (.int (Int32.ofNat dn1818)), .val (.int (Int32.ofNat dn1819)), .unset, .unset, .unset, .unset] [(.int (Int32.ofNat ln))]))) (fun t kt => ?_) ?_
      · show Steps p.tables e below (T1819.setTop (mkF m 156 #[.val (.int p0), .val (.int p1), .val (.int p2), .val (.int p3), .val (.int p4), .val (.int p5), .val (.int (Int32.ofNat ln)), .val (.int (Int32.ofNat n)), .val (.int v1691), .val (.int v1695), .val (.int v1699), .val (.int v1703), .val (.int v1707), .val (.int (1 : Int32)), .val (.int (0 : Int32)), .val (.int (Int32.ofNat dn1815)), .val (.int (Int32.ofNat dn1816)), .val (.int (Int32.ofNat dn1817)), .val (.int (Int32.ofNat dn1818)), .unset, .unset, .unset, .unset, .unset] [(.int (Int32.ofNat dn1819))])) _
        refine XS.istore X1819.here hx rfl (own_hb hby at_156) rfl (l' := #[.val (.int p0), .val (.int p1), .val (.int p2), .val (.int p3), .val (.int p4), .val (.int p5), .val (.int (Int32.ofNat ln)), .val (.int (Int32.ofNat n)), .val (.int v1691), .val (.int v1695), .val (.int v1699), .val (.int v1703), .val (.int v1707), .val (.int (1 : Int32)), .val (.int (0 : Int32)), .val (.int (Int32.ofNat dn1815)), .val (.int (Int32.ofNat dn1816)), .val (.int (Int32.ofNat dn1817)), .val (.int (Int32.ofNat dn1818)), .val (.int (Int32.ofNat dn1819)), .unset, .unset, .unset, .unset]) rfl ?_
        refine XS.iload X1819.here hx rfl (own_hb hby at_158) rfl ?_
        exact kt
      obtain ⟨T1820, h1820, X1820, e1820, E1820, A1820, Q1820, st1820⟩ := own_newPx X1819 hx hZ (hw _ (List.mem_of_getElem? (i := 4) rfl)) hh1819 (g := (mkF m 160 #[.val (.int p0), .val (.int p1), .val (.int p2), .val (.int p3), .val (.int p4), .val (.int p5), .val (.int (Int32.ofNat ln)), .val (.int (Int32.ofNat n)), .val (.int v1691), .val (.int v1695), .val (.int v1699), .val (.int v1703), .val (.int v1707), .val (.int (1 : Int32)), .val (.int (0 : Int32)), .val (.int (Int32.ofNat dn1815)), .val (.int (Int32.ofNat dn1816)), .val (.int (Int32.ofNat dn1817)), .val (.int (Int32.ofNat dn1818)), .val (.int (Int32.ofNat dn1819)), .unset, .unset, .unset, .unset] [(.int (Int32.ofNat ln))])) rfl (own_hb hby at_160) rfl (n := ln) (cap := 7) rfl hln (by decide) (by decide) (by decide)
      obtain ⟨b1820, g1820⟩ : ∃ z, z = h0.size := ⟨_, rfl⟩
      rw [← g1820] at A1820 st1820 Q1820
      have gx1820 : n0 ≤ b1820 := Nat.le_trans Z0 (Nat.le_of_eq g1820.symm)
      refine own_Go.of (S' := (T1820.setTop (mkF m 162 #[.val (.int p0), .val (.int p1), .val (.int p2), .val (.int p3), .val (.int p4), .val (.int p5), .val (.int (Int32.ofNat ln)), .val (.int (Int32.ofNat n)), .val (.int v1691), .val (.int v1695), .val (.int v1699), .val (.int v1703), .val (.int v1707), .val (.int (1 : Int32)), .val (.int (0 : Int32)), .val (.int (Int32.ofNat dn1815)), .val (.int (Int32.ofNat dn1816)), .val (.int (Int32.ofNat dn1817)), .val (.int (Int32.ofNat dn1818)), .val (.int (Int32.ofNat dn1819)), .unset, .unset, .unset, .unset] [(.ref b1820)]))) st1820 ?_
      have hk1821 := Nat.le_trans hk0 E1820.1
      have z1822 := Nat.le_trans Z0 E1820.1
      have f1823 : own_Ar Z h1820 b1820 .byte ln (own_I (fun _ => (0 : Int32))) := A1820
      have f1824 : Exa Z h1820 b1820 "[B" := Q1820
      refine own_Go.of (S' := (T1820.setTop (mkF m 164 #[.val (.int p0), .val (.int p1), .val (.int p2), .val (.int p3), .val (.int p4), .val (.int p5), .val (.int (Int32.ofNat ln)), .val (.int (Int32.ofNat n)), .val (.int v1691), .val (.int v1695), .val (.int v1699), .val (.int v1703), .val (.int v1707), .val (.int (1 : Int32)), .val (.int (0 : Int32)), .val (.int (Int32.ofNat dn1815)), .val (.int (Int32.ofNat dn1816)), .val (.int (Int32.ofNat dn1817)), .val (.int (Int32.ofNat dn1818)), .val (.int (Int32.ofNat dn1819)), .val (.ref b1820), .unset, .unset, .unset] []))) (fun t kt => ?_) ?_
      · show Steps p.tables e below (T1820.setTop (mkF m 162 #[.val (.int p0), .val (.int p1), .val (.int p2), .val (.int p3), .val (.int p4), .val (.int p5), .val (.int (Int32.ofNat ln)), .val (.int (Int32.ofNat n)), .val (.int v1691), .val (.int v1695), .val (.int v1699), .val (.int v1703), .val (.int v1707), .val (.int (1 : Int32)), .val (.int (0 : Int32)), .val (.int (Int32.ofNat dn1815)), .val (.int (Int32.ofNat dn1816)), .val (.int (Int32.ofNat dn1817)), .val (.int (Int32.ofNat dn1818)), .val (.int (Int32.ofNat dn1819)), .unset, .unset, .unset, .unset] [(.ref b1820)])) _
        refine XS.astore X1820.here hx rfl (own_hb hby at_162) rfl rfl (l' := #[.val (.int p0), .val (.int p1), .val (.int p2), .val (.int p3), .val (.int p4), .val (.int p5), .val (.int (Int32.ofNat ln)), .val (.int (Int32.ofNat n)), .val (.int v1691), .val (.int v1695), .val (.int v1699), .val (.int v1703), .val (.int v1707), .val (.int (1 : Int32)), .val (.int (0 : Int32)), .val (.int (Int32.ofNat dn1815)), .val (.int (Int32.ofNat dn1816)), .val (.int (Int32.ofNat dn1817)), .val (.int (Int32.ofNat dn1818)), .val (.int (Int32.ofNat dn1819)), .val (.ref b1820), .unset, .unset, .unset]) rfl ?_
        exact kt
      obtain ⟨T1825, h1825, X1825, e1825, E1825, A1825, D1825, -, st1825⟩ := newO X1820 hx hZ hown (hw _ (List.mem_of_getElem? (i := 5) rfl)) (hw _ (List.mem_of_getElem? (i := 6) rfl)) (hw _ (List.mem_of_getElem? (i := 7) rfl)) e1820 (g := (mkF m 164 #[.val (.int p0), .val (.int p1), .val (.int p2), .val (.int p3), .val (.int p4), .val (.int p5), .val (.int (Int32.ofNat ln)), .val (.int (Int32.ofNat n)), .val (.int v1691), .val (.int v1695), .val (.int v1699), .val (.int v1703), .val (.int v1707), .val (.int (1 : Int32)), .val (.int (0 : Int32)), .val (.int (Int32.ofNat dn1815)), .val (.int (Int32.ofNat dn1816)), .val (.int (Int32.ofNat dn1817)), .val (.int (Int32.ofNat dn1818)), .val (.int (Int32.ofNat dn1819)), .val (.ref b1820), .unset, .unset, .unset] [])) rfl (own_hb hby at_164) (by decide) (by decide)
      obtain ⟨b1825, g1825⟩ : ∃ z, z = h1820.size := ⟨_, rfl⟩
      rw [← g1825] at A1825 D1825 st1825
      have gx1825 : n0 ≤ b1825 := Nat.le_trans z1822 (Nat.le_of_eq g1825.symm)
      have ne1826 : b1820 ≠ b1825 := Nat.ne_of_lt (Nat.lt_of_lt_of_le f1823.lt (Nat.le_of_eq g1825.symm))
      refine own_Go.of (S' := (T1825.setTop (mkF m 167 #[.val (.int p0), .val (.int p1), .val (.int p2), .val (.int p3), .val (.int p4), .val (.int p5), .val (.int (Int32.ofNat ln)), .val (.int (Int32.ofNat n)), .val (.int v1691), .val (.int v1695), .val (.int v1699), .val (.int v1703), .val (.int v1707), .val (.int (1 : Int32)), .val (.int (0 : Int32)), .val (.int (Int32.ofNat dn1815)), .val (.int (Int32.ofNat dn1816)), .val (.int (Int32.ofNat dn1817)), .val (.int (Int32.ofNat dn1818)), .val (.int (Int32.ofNat dn1819)), .val (.ref b1820), .unset, .unset, .unset] [(.ref b1825)]))) st1825 ?_
      have hk1827 := Nat.le_trans hk1821 E1825.1
      have f1828 := f1823.ext E1825
      have f1829 := f1824.ext E1825
      have z1830 := Nat.le_trans z1822 E1825.1
      have f1831 : Fld Z h1825 b1825 "com/example/quayside/quayside/Row" "bytes" "[B" .null := D1825 (Or.inl (hw _ (List.mem_of_getElem? (i := 15) rfl))) (ty := (.array .byte)) (by decide)
      have f1832 : Fld Z h1825 b1825 "com/example/quayside/quayside/Row" "starts" "[I" .null := D1825 (Or.inl (hw _ (List.mem_of_getElem? (i := 18) rfl))) (ty := (.array .int)) (by decide)
      have f1833 : Fld Z h1825 b1825 "com/example/quayside/quayside/Row" "ends" "[I" .null := D1825 (Or.inl (hw _ (List.mem_of_getElem? (i := 20) rfl))) (ty := (.array .int)) (by decide)
      have f1834 : Fld Z h1825 b1825 "com/example/quayside/quayside/Row" "text" "Z" (.int (0 : Int32)) := D1825 (Or.inl (hw _ (List.mem_of_getElem? (i := 40) rfl))) (ty := .boolean) (by decide)
      have f1835 : Fld Z h1825 b1825 "com/example/quayside/quayside/Row" "reach" "I" (.int (0 : Int32)) := D1825 (Or.inl (hw _ (List.mem_of_getElem? (i := 50) rfl))) (ty := .int) (by decide)
      have f1836 : Fld Z h1825 b1825 "com/example/quayside/quayside/Row" "size" "I" (.int (0 : Int32)) := D1825 (Or.inl (hw _ (List.mem_of_getElem? (i := 57) rfl))) (ty := .int) (by decide)
      have f1837 : Fld Z h1825 b1825 "com/example/quayside/quayside/Row" "nulls" "[Z" .null := D1825 (Or.inl (hw _ (List.mem_of_getElem? (i := 69) rfl))) (ty := (.array .boolean)) (by decide)
      have f1838 : Fld Z h1825 b1825 "com/example/quayside/quayside/Row" "nullCount" "I" (.int (0 : Int32)) := D1825 (Or.inl (hw _ (List.mem_of_getElem? (i := 83) rfl))) (ty := .int) (by decide)
      refine own_Go.of (S' := (T1825.setTop (mkF m 168 #[.val (.int p0), .val (.int p1), .val (.int p2), .val (.int p3), .val (.int p4), .val (.int p5), .val (.int (Int32.ofNat ln)), .val (.int (Int32.ofNat n)), .val (.int v1691), .val (.int v1695), .val (.int v1699), .val (.int v1703), .val (.int v1707), .val (.int (1 : Int32)), .val (.int (0 : Int32)), .val (.int (Int32.ofNat dn1815)), .val (.int (Int32.ofNat dn1816)), .val (.int (Int32.ofNat dn1817)), .val (.int (Int32.ofNat dn1818)), .val (.int (Int32.ofNat dn1819)), .val (.ref b1820), .unset, .unset, .unset] [(.ref b1825), (.ref b1825)]))) (fun t kt => ?_) ?_
      · show Steps p.tables e below (T1825.setTop (mkF m 167 #[.val (.int p0), .val (.int p1), .val (.int p2), .val (.int p3), .val (.int p4), .val (.int p5), .val (.int (Int32.ofNat ln)), .val (.int (Int32.ofNat n)), .val (.int v1691), .val (.int v1695), .val (.int v1699), .val (.int v1703), .val (.int v1707), .val (.int (1 : Int32)), .val (.int (0 : Int32)), .val (.int (Int32.ofNat dn1815)), .val (.int (Int32.ofNat dn1816)), .val (.int (Int32.ofNat dn1817)), .val (.int (Int32.ofNat dn1818)), .val (.int (Int32.ofNat dn1819)), .val (.ref b1820), .unset, .unset, .unset] [(.ref b1825)])) _
        refine XS.dup X1825.here hx rfl (own_hb hby at_167) rfl rfl ?_
        exact kt
      obtain ⟨_, _, ⟨T1839, L1839, k1839, n1839⟩, -, X1839, ⟨Lc1839, hQ1839, l1839, y1839, z1839⟩, st1839⟩ := X1825.specialBack hx (y := (⟨"com/example/quayside/quayside/Row", "<init>", "()V"⟩ : MethodName)) rfl hown (mvT hZ (hw _ (List.mem_of_getElem? (i := 8) rfl))) (mvT hZ (hw _ (List.mem_of_getElem? (i := 9) rfl))) (mvT hZ (hw _ (List.mem_of_getElem? (i := 10) rfl))) (by decide) (backOf (W := 1) (rm2 l Z a0 hw [] b1825 .null .null .null h1825 n0 z1830 A1825 f1831 f1832 f1833 f1836 f1835 f1834 f1837 f1838 gx1825) hZ (hw _ (List.mem_of_getElem? (i := 10) rfl)) (hw _ (List.mem_of_getElem? (i := 7) rfl)) (by decide) (by decide)) (g := (mkF m 168 #[.val (.int p0), .val (.int p1), .val (.int p2), .val (.int p3), .val (.int p4), .val (.int p5), .val (.int (Int32.ofNat ln)), .val (.int (Int32.ofNat n)), .val (.int v1691), .val (.int v1695), .val (.int v1699), .val (.int v1703), .val (.int v1707), .val (.int (1 : Int32)), .val (.int (0 : Int32)), .val (.int (Int32.ofNat dn1815)), .val (.int (Int32.ofNat dn1816)), .val (.int (Int32.ofNat dn1817)), .val (.int (Int32.ofNat dn1818)), .val (.int (Int32.ofNat dn1819)), .val (.ref b1820), .unset, .unset, .unset] [(.ref b1825), (.ref b1825)])) rfl (by rw [hml]; rfl) (Steps.refl _) (a := b1825) (argsL := []) (rest := [(.ref b1825)]) (lenOf pd_5 rfl) rfl (by show 2 * 0 + _ ≤ _; exact Nat.le_of_eq rfl) (own_hb hby at_168) (fun _ _ => ⟨rfl, e1825, (by decide : 2 + 3 ≤ _), (by decide : 15 + 8 ≤ _)⟩)
      dsimp only [Pt.U, Pt.locs, Pt.cells, Pt.slots] at X1839 l1839 y1839 z1839 st1839 hQ1839
      subst l1839 y1839 z1839
      obtain ⟨bs1839, rs1839, re1839, rfl, N1839q, K1839, p1839_0, p1839_1, p1839_2, p1839_3, p1839_4, p1839_5, p1839_6, p1839_7, p1839_8, p1839_9, p1839_10, p1839_11, p1839_12, p1839_13, p1839_14⟩ := hQ1839
      have N1839 := Fr.app N1819 N1839q
      refine own_Go.of (S' := (T1839.setTop (mkF m 171 #[.val (.int p0), .val (.int p1), .val (.int p2), .val (.int p3), .val (.int p4), .val (.int p5), .val (.int (Int32.ofNat ln)), .val (.int (Int32.ofNat n)), .val (.int v1691), .val (.int v1695), .val (.int v1699), .val (.int v1703), .val (.int v1707), .val (.int (1 : Int32)), .val (.int (0 : Int32)), .val (.int (Int32.ofNat dn1815)), .val (.int (Int32.ofNat dn1816)), .val (.int (Int32.ofNat dn1817)), .val (.int (Int32.ofNat dn1818)), .val (.int (Int32.ofNat dn1819)), .val (.ref b1820), .unset, .unset, .unset] [(.ref b1825)]))) (fun t kt => st1839.trans kt) ?_
      have gx1840 : n0 ≤ bs1839 := Nat.le_trans z1830 p1839_0
      have ne1841 : b1820 ≠ bs1839 := Nat.ne_of_lt (Nat.lt_of_lt_of_le f1828.lt p1839_0)
      have ne1842 : b1825 ≠ bs1839 := Nat.ne_of_lt (Nat.lt_of_lt_of_le A1825.lt p1839_0)
      have gx1843 : n0 ≤ rs1839 := Nat.le_trans z1830 p1839_1
      have ne1844 : b1820 ≠ rs1839 := Nat.ne_of_lt (Nat.lt_of_lt_of_le f1828.lt p1839_1)
      have ne1845 : b1825 ≠ rs1839 := Nat.ne_of_lt (Nat.lt_of_lt_of_le A1825.lt p1839_1)
      have gx1846 : n0 ≤ re1839 := Nat.le_trans z1830 p1839_2
      have ne1847 : b1820 ≠ re1839 := Nat.ne_of_lt (Nat.lt_of_lt_of_le f1828.lt p1839_2)
      have ne1848 : b1825 ≠ re1839 := Nat.ne_of_lt (Nat.lt_of_lt_of_le A1825.lt p1839_2)
      have hk1849 := Nat.le_trans hk1827 K1839.1
      have f1850 := f1828.keep K1839 (ninS ne1826 nin0)
      have f1851 := f1829.keep K1839
      have f1852 := A1825.keep K1839
      have z1853 := Nat.le_trans z1830 K1839.1
      refine own_Go.of (S' := (T1839.setTop (mkF m 191 #[.val (.int p0), .val (.int p1), .val (.int p2), .val (.int p3), .val (.int p4), .val (.int p5), .val (.int (Int32.ofNat ln)), .val (.int (Int32.ofNat n)), .val (.int v1691), .val (.int v1695), .val (.int v1699), .val (.int v1703), .val (.int v1707), .val (.int (1 : Int32)), .val (.int (0 : Int32)), .val (.int (Int32.ofNat dn1815)), .val (.int (Int32.ofNat dn1816)), .val (.int (Int32.ofNat dn1817)), .val (.int (Int32.ofNat dn1818)), .val (.int (Int32.ofNat dn1819)), .val (.ref b1820), .val (.ref b1825), .unset, .unset] []))) (fun t kt => ?_) ?_
      · show Steps p.tables e below (T1839.setTop (mkF m 171 #[.val (.int p0), .val (.int p1), .val (.int p2), .val (.int p3), .val (.int p4), .val (.int p5), .val (.int (Int32.ofNat ln)), .val (.int (Int32.ofNat n)), .val (.int v1691), .val (.int v1695), .val (.int v1699), .val (.int v1703), .val (.int v1707), .val (.int (1 : Int32)), .val (.int (0 : Int32)), .val (.int (Int32.ofNat dn1815)), .val (.int (Int32.ofNat dn1816)), .val (.int (Int32.ofNat dn1817)), .val (.int (Int32.ofNat dn1818)), .val (.int (Int32.ofNat dn1819)), .val (.ref b1820), .unset, .unset, .unset] [(.ref b1825)])) _
        refine XS.astore X1839.here hx rfl (own_hb hby at_171) rfl rfl (l' := #[.val (.int p0), .val (.int p1), .val (.int p2), .val (.int p3), .val (.int p4), .val (.int p5), .val (.int (Int32.ofNat ln)), .val (.int (Int32.ofNat n)), .val (.int v1691), .val (.int v1695), .val (.int v1699), .val (.int v1703), .val (.int v1707), .val (.int (1 : Int32)), .val (.int (0 : Int32)), .val (.int (Int32.ofNat dn1815)), .val (.int (Int32.ofNat dn1816)), .val (.int (Int32.ofNat dn1817)), .val (.int (Int32.ofNat dn1818)), .val (.int (Int32.ofNat dn1819)), .val (.ref b1820), .val (.ref b1825), .unset, .unset]) rfl ?_
        refine XS.iload X1839.here hx rfl (own_hb hby at_173) rfl ?_
        refine XS.ifYes X1839.here hx rfl (pc0 := 175) (pc' := 191) rfl (own_hb hby at_175) rfl ((if0 _ _).trans (teq (rfl : (0 : Int32) = (0 : Int32))).1) (by decide) (by decide) ?_
        exact kt
      have f1854 : Fld Z T1839.heap b1825 "com/example/quayside/quayside/Row" "size" "I" (.int (Int32.ofNat 0)) := p1839_8
      have rowL : own_Row Z T1839.heap n0 b1820 b1825 0 4 (own_D v1691 v1695 v1699 v1703 v1707 dn1815 dn1816 dn1817 dn1818 dn1819) bs1839 := ⟨rs1839, re1839, (fun _ => (0 : Int32)), (fun _ => (0 : Int32)), (0 : Int32), (0 : Int32), p1839_4, p1839_6, p1839_7, f1854, p1839_9, p1839_10, p1839_5, p1839_13, p1839_14, gx1825, gx1843, gx1846, ne1845, ne1848, p1839_3, ne1826, ne1844, ne1847, (by decide), (Or.inl rfl), ⟨(fun i hi => absurd hi (Nat.not_lt_zero i)), own_Rch.zero⟩, Or.inl ⟨p1839_11, p1839_12⟩⟩
      refine own_Go.of (S' := (T1839.setTop (mkF m 203 #[.val (.int p0), .val (.int p1), .val (.int p2), .val (.int p3), .val (.int p4), .val (.int p5), .val (.int (Int32.ofNat ln)), .val (.int (Int32.ofNat n)), .val (.int v1691), .val (.int v1695), .val (.int v1699), .val (.int v1703), .val (.int v1707), .val (.int (1 : Int32)), .val (.int (0 : Int32)), .val (.int (Int32.ofNat dn1815)), .val (.int (Int32.ofNat dn1816)), .val (.int (Int32.ofNat dn1817)), .val (.int (Int32.ofNat dn1818)), .val (.int (Int32.ofNat dn1819)), .val (.ref b1820), .val (.ref b1825), .unset, .unset] []))) (fun t kt => ?_) ?_
      · show Steps p.tables e below (T1839.setTop (mkF m 191 #[.val (.int p0), .val (.int p1), .val (.int p2), .val (.int p3), .val (.int p4), .val (.int p5), .val (.int (Int32.ofNat ln)), .val (.int (Int32.ofNat n)), .val (.int v1691), .val (.int v1695), .val (.int v1699), .val (.int v1703), .val (.int v1707), .val (.int (1 : Int32)), .val (.int (0 : Int32)), .val (.int (Int32.ofNat dn1815)), .val (.int (Int32.ofNat dn1816)), .val (.int (Int32.ofNat dn1817)), .val (.int (Int32.ofNat dn1818)), .val (.int (Int32.ofNat dn1819)), .val (.ref b1820), .val (.ref b1825), .unset, .unset] [])) _
        refine XS.iload X1839.here hx rfl (own_hb hby at_191) rfl ?_
        refine XS.ifYes X1839.here hx rfl (pc0 := 193) (pc' := 203) rfl (own_hb hby at_193) rfl ((if0 _ _).trans (feq (by decide : ¬ ((1 : Int32) = (0 : Int32)))).2) (by decide) (by decide) ?_
        exact kt
      exact seg203l (vm0 := s.vm) hw hx hZ hS0 hby hml hret hlk hown hnm p0 p1 p2 p3 p4 p5 h0 n0 ln n v1691 v1695 v1699 v1703 v1707 (0 : Int32) dn1815 dn1816 dn1817 dn1818 dn1819 b1820 b1825 4 (own_D v1691 v1695 v1699 v1703 v1707 dn1815 dn1816 dn1817 dn1818 dn1819) (own_I (fun _ => (0 : Int32))) bs1839 (own_mono X1839 (by decide) (by decide)) rfl N1839 z1853 rowL f1850 f1851 hln hn hbbv1691 hbbv1695 hbbv1699 hbbv1703 hbbv1707 p1815_0 p1816_0 p1817_0 p1818_0 p1819_0 (fun _ => rfl) (fun _ => rfl) (fun _ => rfl) (fun _ => rfl) (fun _ => rfl) hk1849
    · skip
      refine own_Go.of (S' := (T0.setTop (mkF m 125 #[.val (.int p0), .val (.int p1), .val (.int p2), .val (.int p3), .val (.int p4), .val (.int p5), .val (.int (Int32.ofNat ln)), .val (.int (Int32.ofNat n)), .val (.int v1691), .val (.int v1695), .val (.int v1699), .val (.int v1703), .val (.int v1707), .val (.int (1 : Int32)), .val (.int (1 : Int32)), .unset, .unset, .unset, .unset, .unset, .unset, .unset, .unset, .unset] [(.int p2)]))) (fun t kt => ?_) ?_
      · show Steps p.tables e below (T0.setTop (mkF m 114 #[.val (.int p0), .val (.int p1), .val (.int p2), .val (.int p3), .val (.int p4), .val (.int p5), .val (.int (Int32.ofNat ln)), .val (.int (Int32.ofNat n)), .val (.int v1691), .val (.int v1695), .val (.int v1699), .val (.int v1703), .val (.int v1707), .val (.int (1 : Int32)), .unset, .unset, .unset, .unset, .unset, .unset, .unset, .unset, .unset, .unset] [(.int (((p0.toUInt32 >>> ((9 : Int32) &&& 31).toUInt32).toInt32) &&& (1 : Int32)))])) _
        refine XS.ifNo X0.here hx rfl (own_hb hby at_114) rfl ((if0 _ _).trans (feq hc114_1814).1) ?_
        refine XS.iconst X0.here hx rfl (own_hb hby at_117) ?_
        refine XS.goto X0.here hx rfl (pc0 := 118) (pc' := 122) rfl (own_hb hby at_118) (by decide) (by decide) ?_
        refine XS.istore X0.here hx rfl (own_hb hby at_122) rfl (l' := #[.val (.int p0), .val (.int p1), .val (.int p2), .val (.int p3), .val (.int p4), .val (.int p5), .val (.int (Int32.ofNat ln)), .val (.int (Int32.ofNat n)), .val (.int v1691), .val (.int v1695), .val (.int v1699), .val (.int v1703), .val (.int v1707), .val (.int (1 : Int32)), .val (.int (1 : Int32)), .unset, .unset, .unset, .unset, .unset, .unset, .unset, .unset, .unset]) rfl ?_
        show Steps p.tables e below (T0.setTop (mkF m 124 #[.val (.int p0), .val (.int p1), .val (.int p2), .val (.int p3), .val (.int p4), .val (.int p5), .val (.int (Int32.ofNat ln)), .val (.int (Int32.ofNat n)), .val (.int v1691), .val (.int v1695), .val (.int v1699), .val (.int v1703), .val (.int v1707), .val (.int (1 : Int32)), .val (.int (1 : Int32)), .unset, .unset, .unset, .unset, .unset, .unset, .unset, .unset, .unset] [])) _
        refine XS.iloadN X0.here hx rfl (own_hb hby at_124) rfl ?_
        exact kt
      obtain ⟨_, _, ⟨T1855, L1855, k1855, n1855⟩, -, X1855, ⟨Lc1855, hQ1855, l1855, y1855, z1855⟩, st1855⟩ := Jvm.LawKit.callS X0 hx (y := (⟨"com/example/quayside/quayside/RowBeyondBytesPinLaw", "end", "(I)I"⟩ : MethodName)) hown (mvT hZ (hw _ (List.mem_of_getElem? (i := 0) rfl))) (mvT hZ (hw _ (List.mem_of_getElem? (i := 1) rfl))) (mvT hZ (hw _ (List.mem_of_getElem? (i := 2) rfl))) (mvT hZ (hw _ (List.mem_of_getElem? (i := 3) rfl))) (by decide) (backOf (W := 0) (rm1 l Z a0 hw [] p2 h0 n0 Z0 ) hZ (hw _ (List.mem_of_getElem? (i := 3) rfl)) (hw _ (List.mem_of_getElem? (i := 2) rfl)) (by decide) (by decide)) (g := (mkF m 125 #[.val (.int p0), .val (.int p1), .val (.int p2), .val (.int p3), .val (.int p4), .val (.int p5), .val (.int (Int32.ofNat ln)), .val (.int (Int32.ofNat n)), .val (.int v1691), .val (.int v1695), .val (.int v1699), .val (.int v1703), .val (.int v1707), .val (.int (1 : Int32)), .val (.int (1 : Int32)), .unset, .unset, .unset, .unset, .unset, .unset, .unset, .unset, .unset] [(.int p2)])) rfl (by rw [hml]; rfl) (argsL := [(.int p2)]) (rest := []) (lenOf pd_9 rfl) rfl (by show 2 * 0 + _ ≤ _; exact Nat.le_of_eq rfl) (own_hb hby at_125) (fun _ _ => ⟨rfl, e0, (by decide : 0 + 0 ≤ _), (by decide : 0 + 0 ≤ _)⟩)
      dsimp only [Pt.U, Pt.locs, Pt.cells, Pt.slots] at X1855 l1855 y1855 z1855 st1855 hQ1855
      subst l1855 y1855 z1855
      obtain ⟨dn1855, rfl, N1855q, hh1855, p1855_0⟩ := hQ1855
      have N1855 := Fr.app N0 N1855q
      refine own_Go.of (S' := (T1855.setTop (mkF m 128 #[.val (.int p0), .val (.int p1), .val (.int p2), .val (.int p3), .val (.int p4), .val (.int p5), .val (.int (Int32.ofNat ln)), .val (.int (Int32.ofNat n)), .val (.int v1691), .val (.int v1695), .val (.int v1699), .val (.int v1703), .val (.int v1707), .val (.int (1 : Int32)), .val (.int (1 : Int32)), .unset, .unset, .unset, .unset, .unset, .unset, .unset, .unset, .unset] [(.int (Int32.ofNat dn1855))]))) (fun t kt => st1855 t kt) ?_
      refine own_Go.of (S' := (T1855.setTop (mkF m 131 #[.val (.int p0), .val (.int p1), .val (.int p2), .val (.int p3), .val (.int p4), .val (.int p5), .val (.int (Int32.ofNat ln)), .val (.int (Int32.ofNat n)), .val (.int v1691), .val (.int v1695), .val (.int v1699), .val (.int v1703), .val (.int v1707), .val (.int (1 : Int32)), .val (.int (1 : Int32)), .val (.int (Int32.ofNat dn1855)), .unset, .unset, .unset, .unset, .unset, .unset, .unset, .unset] [(.int p3)]))) (fun t kt => ?_) ?_
      · show Steps p.tables e below (T1855.setTop (mkF m 128 #[.val (.int p0), .val (.int p1), .val (.int p2), .val (.int p3), .val (.int p4), .val (.int p5), .val (.int (Int32.ofNat ln)), .val (.int (Int32.ofNat n)), .val (.int v1691), .val (.int v1695), .val (.int v1699), .val (.int v1703), .val (.int v1707), .val (.int (1 : Int32)), .val (.int (1 : Int32)), .unset, .unset, .unset, .unset, .unset, .unset, .unset, .unset, .unset] [(.int (Int32.ofNat dn1855))])) _
        refine XS.istore X1855.here hx rfl (own_hb hby at_128) rfl (l' := #[.val (.int p0), .val (.int p1), .val (.int p2), .val (.int p3), .val (.int p4), .val (.int p5), .val (.int (Int32.ofNat ln)), .val (.int (Int32.ofNat n)), .val (.int v1691), .val (.int v1695), .val (.int v1699), .val (.int v1703), .val (.int v1707), .val (.int (1 : Int32)), .val (.int (1 : Int32)), .val (.int (Int32.ofNat dn1855)), .unset, .unset, .unset, .unset, .unset, .unset, .unset, .unset]) rfl ?_
        refine XS.iloadN X1855.here hx rfl (own_hb hby at_130) rfl ?_
        exact kt
      obtain ⟨_, _, ⟨T1856, L1856, k1856, n1856⟩, -, X1856, ⟨Lc1856, hQ1856, l1856, y1856, z1856⟩, st1856⟩ := Jvm.LawKit.callS X1855 hx (y := (⟨"com/example/quayside/quayside/RowBeyondBytesPinLaw", "end", "(I)I"⟩ : MethodName)) hown (mvT hZ (hw _ (List.mem_of_getElem? (i := 0) rfl))) (mvT hZ (hw _ (List.mem_of_getElem? (i := 1) rfl))) (mvT hZ (hw _ (List.mem_of_getElem? (i := 2) rfl))) (mvT hZ (hw _ (List.mem_of_getElem? (i := 3) rfl))) (by decide) (backOf (W := 0) (rm1 l Z a0 hw [] p3 h0 n0 Z0 ) hZ (hw _ (List.mem_of_getElem? (i := 3) rfl)) (hw _ (List.mem_of_getElem? (i := 2) rfl)) (by decide) (by decide)) (g := (mkF m 131 #[.val (.int p0), .val (.int p1), .val (.int p2), .val (.int p3), .val (.int p4), .val (.int p5), .val (.int (Int32.ofNat ln)), .val (.int (Int32.ofNat n)), .val (.int v1691), .val (.int v1695), .val (.int v1699), .val (.int v1703), .val (.int v1707), .val (.int (1 : Int32)), .val (.int (1 : Int32)), .val (.int (Int32.ofNat dn1855)), .unset, .unset, .unset, .unset, .unset, .unset, .unset, .unset] [(.int p3)])) rfl (by rw [hml]; rfl) (argsL := [(.int p3)]) (rest := []) (lenOf pd_9 rfl) rfl (by show 2 * 0 + _ ≤ _; exact Nat.le_of_eq rfl) (own_hb hby at_131) (fun _ _ => ⟨rfl, hh1855, (by decide : 0 + 0 ≤ _), (by decide : 0 + 0 ≤ _)⟩)
      dsimp only [Pt.U, Pt.locs, Pt.cells, Pt.slots] at X1856 l1856 y1856 z1856 st1856 hQ1856
      subst l1856 y1856 z1856
      obtain ⟨dn1856, rfl, N1856q, hh1856, p1856_0⟩ := hQ1856
      have N1856 := Fr.app N1855 N1856q
      refine own_Go.of (S' := (T1856.setTop (mkF m 134 #[.val (.int p0), .val (.int p1), .val (.int p2), .val (.int p3), .val (.int p4), .val (.int p5), .val (.int (Int32.ofNat ln)), .val (.int (Int32.ofNat n)), .val (.int v1691), .val (.int v1695), .val (.int v1699), .val (.int v1703), .val (.int v1707), .val (.int (1 : Int32)), .val (.int (1 : Int32)), .val (.int (Int32.ofNat dn1855)), .unset, .unset, .unset, .unset, .unset, .unset, .unset, .unset] [(.int (Int32.ofNat dn1856))]))) (fun t kt => st1856 t kt) ?_
      refine own_Go.of (S' := (T1856.setTop (mkF m 138 #[.val (.int p0), .val (.int p1), .val (.int p2), .val (.int p3), .val (.int p4), .val (.int p5), .val (.int (Int32.ofNat ln)), .val (.int (Int32.ofNat n)), .val (.int v1691), .val (.int v1695), .val (.int v1699), .val (.int v1703), .val (.int v1707), .val (.int (1 : Int32)), .val (.int (1 : Int32)), .val (.int (Int32.ofNat dn1855)), .val (.int (Int32.ofNat dn1856)), .unset, .unset, .unset, .unset, .unset, .unset, .unset] [(.int p4)]))) (fun t kt => ?_) ?_
      · show Steps p.tables e below (T1856.setTop (mkF m 134 #[.val (.int p0), .val (.int p1), .val (.int p2), .val (.int p3), .val (.int p4), .val (.int p5), .val (.int (Int32.ofNat ln)), .val (.int (Int32.ofNat n)), .val (.int v1691), .val (.int v1695), .val (.int v1699), .val (.int v1703), .val (.int v1707), .val (.int (1 : Int32)), .val (.int (1 : Int32)), .val (.int (Int32.ofNat dn1855)), .unset, .unset, .unset, .unset, .unset, .unset, .unset, .unset] [(.int (Int32.ofNat dn1856))])) _
        refine XS.istore X1856.here hx rfl (own_hb hby at_134) rfl (l' := #[.val (.int p0), .val (.int p1), .val (.int p2), .val (.int p3), .val (.int p4), .val (.int p5), .val (.int (Int32.ofNat ln)), .val (.int (Int32.ofNat n)), .val (.int v1691), .val (.int v1695), .val (.int v1699), .val (.int v1703), .val (.int v1707), .val (.int (1 : Int32)), .val (.int (1 : Int32)), .val (.int (Int32.ofNat dn1855)), .val (.int (Int32.ofNat dn1856)), .unset, .unset, .unset, .unset, .unset, .unset, .unset]) rfl ?_
        refine XS.iload X1856.here hx rfl (own_hb hby at_136) rfl ?_
        exact kt
      obtain ⟨_, _, ⟨T1857, L1857, k1857, n1857⟩, -, X1857, ⟨Lc1857, hQ1857, l1857, y1857, z1857⟩, st1857⟩ := Jvm.LawKit.callS X1856 hx (y := (⟨"com/example/quayside/quayside/RowBeyondBytesPinLaw", "end", "(I)I"⟩ : MethodName)) hown (mvT hZ (hw _ (List.mem_of_getElem? (i := 0) rfl))) (mvT hZ (hw _ (List.mem_of_getElem? (i := 1) rfl))) (mvT hZ (hw _ (List.mem_of_getElem? (i := 2) rfl))) (mvT hZ (hw _ (List.mem_of_getElem? (i := 3) rfl))) (by decide) (backOf (W := 0) (rm1 l Z a0 hw [] p4 h0 n0 Z0 ) hZ (hw _ (List.mem_of_getElem? (i := 3) rfl)) (hw _ (List.mem_of_getElem? (i := 2) rfl)) (by decide) (by decide)) (g := (mkF m 138 #[.val (.int p0), .val (.int p1), .val (.int p2), .val (.int p3), .val (.int p4), .val (.int p5), .val (.int (Int32.ofNat ln)), .val (.int (Int32.ofNat n)), .val (.int v1691), .val (.int v1695), .val (.int v1699), .val (.int v1703), .val (.int v1707), .val (.int (1 : Int32)), .val (.int (1 : Int32)), .val (.int (Int32.ofNat dn1855)), .val (.int (Int32.ofNat dn1856)), .unset, .unset, .unset, .unset, .unset, .unset, .unset] [(.int p4)])) rfl (by rw [hml]; rfl) (argsL := [(.int p4)]) (rest := []) (lenOf pd_9 rfl) rfl (by show 2 * 0 + _ ≤ _; exact Nat.le_of_eq rfl) (own_hb hby at_138) (fun _ _ => ⟨rfl, hh1856, (by decide : 0 + 0 ≤ _), (by decide : 0 + 0 ≤ _)⟩)
      dsimp only [Pt.U, Pt.locs, Pt.cells, Pt.slots] at X1857 l1857 y1857 z1857 st1857 hQ1857
      subst l1857 y1857 z1857
      obtain ⟨dn1857, rfl, N1857q, hh1857, p1857_0⟩ := hQ1857
      have N1857 := Fr.app N1856 N1857q
      refine own_Go.of (S' := (T1857.setTop (mkF m 141 #[.val (.int p0), .val (.int p1), .val (.int p2), .val (.int p3), .val (.int p4), .val (.int p5), .val (.int (Int32.ofNat ln)), .val (.int (Int32.ofNat n)), .val (.int v1691), .val (.int v1695), .val (.int v1699), .val (.int v1703), .val (.int v1707), .val (.int (1 : Int32)), .val (.int (1 : Int32)), .val (.int (Int32.ofNat dn1855)), .val (.int (Int32.ofNat dn1856)), .unset, .unset, .unset, .unset, .unset, .unset, .unset] [(.int (Int32.ofNat dn1857))]))) (fun t kt => st1857 t kt) ?_
      refine own_Go.of (S' := (T1857.setTop (mkF m 145 #[.val (.int p0), .val (.int p1), .val (.int p2), .val (.int p3), .val (.int p4), .val (.int p5), .val (.int (Int32.ofNat ln)), .val (.int (Int32.ofNat n)), .val (.int v1691), .val (.int v1695), .val (.int v1699), .val (.int v1703), .val (.int v1707), .val (.int (1 : Int32)), .val (.int (1 : Int32)), .val (.int (Int32.ofNat dn1855)), .val (.int (Int32.ofNat dn1856)), .val (.int (Int32.ofNat dn1857)), .unset, .unset, .unset, .unset, .unset, .unset] [(.int p5)]))) (fun t kt => ?_) ?_
      · show Steps p.tables e below (T1857.setTop (mkF m 141 #[.val (.int p0), .val (.int p1), .val (.int p2), .val (.int p3), .val (.int p4), .val (.int p5), .val (.int (Int32.ofNat ln)), .val (.int (Int32.ofNat n)), .val (.int v1691), .val (.int v1695), .val (.int v1699), .val (.int v1703), .val (.int v1707), .val (.int (1 : Int32)), .val (.int (1 : Int32)), .val (.int (Int32.ofNat dn1855)), .val (.int (Int32.ofNat dn1856)), .unset, .unset, .unset, .unset, .unset, .unset, .unset] [(.int (Int32.ofNat dn1857))])) _
        refine XS.istore X1857.here hx rfl (own_hb hby at_141) rfl (l' := #[.val (.int p0), .val (.int p1), .val (.int p2), .val (.int p3), .val (.int p4), .val (.int p5), .val (.int (Int32.ofNat ln)), .val (.int (Int32.ofNat n)), .val (.int v1691), .val (.int v1695), .val (.int v1699), .val (.int v1703), .val (.int v1707), .val (.int (1 : Int32)), .val (.int (1 : Int32)), .val (.int (Int32.ofNat dn1855)), .val (.int (Int32.ofNat dn1856)), .val (.int (Int32.ofNat dn1857)), .unset, .unset, .unset, .unset, .unset, .unset]) rfl ?_
        refine XS.iload X1857.here hx rfl (own_hb hby at_143) rfl ?_
        exact kt
      obtain ⟨_, _, ⟨T1858, L1858, k1858, n1858⟩, -, X1858, ⟨Lc1858, hQ1858, l1858, y1858, z1858⟩, st1858⟩ := Jvm.LawKit.callS X1857 hx (y := (⟨"com/example/quayside/quayside/RowBeyondBytesPinLaw", "end", "(I)I"⟩ : MethodName)) hown (mvT hZ (hw _ (List.mem_of_getElem? (i := 0) rfl))) (mvT hZ (hw _ (List.mem_of_getElem? (i := 1) rfl))) (mvT hZ (hw _ (List.mem_of_getElem? (i := 2) rfl))) (mvT hZ (hw _ (List.mem_of_getElem? (i := 3) rfl))) (by decide) (backOf (W := 0) (rm1 l Z a0 hw [] p5 h0 n0 Z0 ) hZ (hw _ (List.mem_of_getElem? (i := 3) rfl)) (hw _ (List.mem_of_getElem? (i := 2) rfl)) (by decide) (by decide)) (g := (mkF m 145 #[.val (.int p0), .val (.int p1), .val (.int p2), .val (.int p3), .val (.int p4), .val (.int p5), .val (.int (Int32.ofNat ln)), .val (.int (Int32.ofNat n)), .val (.int v1691), .val (.int v1695), .val (.int v1699), .val (.int v1703), .val (.int v1707), .val (.int (1 : Int32)), .val (.int (1 : Int32)), .val (.int (Int32.ofNat dn1855)), .val (.int (Int32.ofNat dn1856)), .val (.int (Int32.ofNat dn1857)), .unset, .unset, .unset, .unset, .unset, .unset] [(.int p5)])) rfl (by rw [hml]; rfl) (argsL := [(.int p5)]) (rest := []) (lenOf pd_9 rfl) rfl (by show 2 * 0 + _ ≤ _; exact Nat.le_of_eq rfl) (own_hb hby at_145) (fun _ _ => ⟨rfl, hh1857, (by decide : 0 + 0 ≤ _), (by decide : 0 + 0 ≤ _)⟩)
      dsimp only [Pt.U, Pt.locs, Pt.cells, Pt.slots] at X1858 l1858 y1858 z1858 st1858 hQ1858
      subst l1858 y1858 z1858
      obtain ⟨dn1858, rfl, N1858q, hh1858, p1858_0⟩ := hQ1858
      have N1858 := Fr.app N1857 N1858q
      refine own_Go.of (S' := (T1858.setTop (mkF m 148 #[.val (.int p0), .val (.int p1), .val (.int p2), .val (.int p3), .val (.int p4), .val (.int p5), .val (.int (Int32.ofNat ln)), .val (.int (Int32.ofNat n)), .val (.int v1691), .val (.int v1695), .val (.int v1699), .val (.int v1703), .val (.int v1707), .val (.int (1 : Int32)), .val (.int (1 : Int32)), .val (.int (Int32.ofNat dn1855)), .val (.int (Int32.ofNat dn1856)), .val (.int (Int32.ofNat dn1857)), .unset, .unset, .unset, .unset, .unset, .unset] [(.int (Int32.ofNat dn1858))]))) (fun t kt => st1858 t kt) ?_
      refine own_Go.of (S' := (T1858.setTop (mkF m 153 #[.val (.int p0), .val (.int p1), .val (.int p2), .val (.int p3), .val (.int p4), .val (.int p5), .val (.int (Int32.ofNat ln)), .val (.int (Int32.ofNat n)), .val (.int v1691), .val (.int v1695), .val (.int v1699), .val (.int v1703), .val (.int v1707), .val (.int (1 : Int32)), .val (.int (1 : Int32)), .val (.int (Int32.ofNat dn1855)), .val (.int (Int32.ofNat dn1856)), .val (.int (Int32.ofNat dn1857)), .val (.int (Int32.ofNat dn1858)), .unset, .unset, .unset, .unset, .unset] [(.int (p1 >>> ((3 : Int32) &&& 31)))]))) (fun t kt => ?_) ?_
      · show Steps p.tables e below (T1858.setTop (mkF m 148 #[.val (.int p0), .val (.int p1), .val (.int p2), .val (.int p3), .val (.int p4), .val (.int p5), .val (.int (Int32.ofNat ln)), .val (.int (Int32.ofNat n)), .val (.int v1691), .val (.int v1695), .val (.int v1699), .val (.int v1703), .val (.int v1707), .val (.int (1 : Int32)), .val (.int (1 : Int32)), .val (.int (Int32.ofNat dn1855)), .val (.int (Int32.ofNat dn1856)), .val (.int (Int32.ofNat dn1857)), .unset, .unset, .unset, .unset, .unset, .unset] [(.int (Int32.ofNat dn1858))])) _
        refine XS.istore X1858.here hx rfl (own_hb hby at_148) rfl (l' := #[.val (.int p0), .val (.int p1), .val (.int p2), .val (.int p3), .val (.int p4), .val (.int p5), .val (.int (Int32.ofNat ln)), .val (.int (Int32.ofNat n)), .val (.int v1691), .val (.int v1695), .val (.int v1699), .val (.int v1703), .val (.int v1707), .val (.int (1 : Int32)), .val (.int (1 : Int32)), .val (.int (Int32.ofNat dn1855)), .val (.int (Int32.ofNat dn1856)), .val (.int (Int32.ofNat dn1857)), .val (.int (Int32.ofNat dn1858)), .unset, .unset, .unset, .unset, .unset]) rfl ?_
        refine XS.iloadN X1858.here hx rfl (own_hb hby at_150) rfl ?_
        refine XS.iconst X1858.here hx rfl (own_hb hby at_151) ?_
        refine XS.ishr X1858.here hx rfl (own_hb hby at_152) rfl ?_
        exact kt
      obtain ⟨_, _, ⟨T1859, L1859, k1859, n1859⟩, -, X1859, ⟨Lc1859, hQ1859, l1859, y1859, z1859⟩, st1859⟩ := Jvm.LawKit.callS X1858 hx (y := (⟨"com/example/quayside/quayside/RowBeyondBytesPinLaw", "end", "(I)I"⟩ : MethodName)) hown (mvT hZ (hw _ (List.mem_of_getElem? (i := 0) rfl))) (mvT hZ (hw _ (List.mem_of_getElem? (i := 1) rfl))) (mvT hZ (hw _ (List.mem_of_getElem? (i := 2) rfl))) (mvT hZ (hw _ (List.mem_of_getElem? (i := 3) rfl))) (by decide) (backOf (W := 0) (rm1 l Z a0 hw [] (p1 >>> ((3 : Int32) &&& 31)) h0 n0 Z0 ) hZ (hw _ (List.mem_of_getElem? (i := 3) rfl)) (hw _ (List.mem_of_getElem? (i := 2) rfl)) (by decide) (by decide)) (g := (mkF m 153 #[.val (.int p0), .val (.int p1), .val (.int p2), .val (.int p3), .val (.int p4), .val (.int p5), .val (.int (Int32.ofNat ln)), .val (.int (Int32.ofNat n)), .val (.int v1691), .val (.int v1695), .val (.int v1699), .val (.int v1703), .val (.int v1707), .val (.int (1 : Int32)), .val (.int (1 : Int32)), .val (.int (Int32.ofNat dn1855)), .val (.int (Int32.ofNat dn1856)), .val (.int (Int32.ofNat dn1857)), .val (.int (Int32.ofNat dn1858)), .unset, .unset, .unset, .unset, .unset] [(.int (p1 >>> ((3 : Int32) &&& 31)))])) rfl (by rw [hml]; rfl) (argsL := [(.int (p1 >>> ((3 : Int32) &&& 31)))]) (rest := []) (lenOf pd_9 rfl) rfl (by show 2 * 0 + _ ≤ _; exact Nat.le_of_eq rfl) (own_hb hby at_153) (fun _ _ => ⟨rfl, hh1858, (by decide : 0 + 0 ≤ _), (by decide : 0 + 0 ≤ _)⟩)
      dsimp only [Pt.U, Pt.locs, Pt.cells, Pt.slots] at X1859 l1859 y1859 z1859 st1859 hQ1859
      subst l1859 y1859 z1859
      obtain ⟨dn1859, rfl, N1859q, hh1859, p1859_0⟩ := hQ1859
      have N1859 := Fr.app N1858 N1859q
      refine own_Go.of (S' := (T1859.setTop (mkF m 156 #[.val (.int p0), .val (.int p1), .val (.int p2), .val (.int p3), .val (.int p4), .val (.int p5), .val (.int (Int32.ofNat ln)), .val (.int (Int32.ofNat n)), .val (.int v1691), .val (.int v1695), .val (.int v1699), .val (.int v1703), .val (.int v1707), .val (.int (1 : Int32)), .val (.int (1 : Int32)), .val (.int (Int32.ofNat dn1855)), .val (.int (Int32.ofNat dn1856)), .val (.int (Int32.ofNat dn1857)), .val (.int (Int32.ofNat dn1858)), .unset, .unset, .unset, .unset, .unset] [(.int (Int32.ofNat dn1859))]))) (fun t kt => st1859 t kt) ?_
      refine own_Go.of (S' := (T1859.setTop (mkF m 160 #[.val (.int p0), .val (.int p1), .val (.int p2), .val (.int p3), .val (.int p4), .val (.int p5), .val (.int (Int32.ofNat ln)), .val (.int (Int32.ofNat n)), .val (.int v1691), .val (.int v1695), .val (.int v1699), .val (.int v1703), .val (.int v1707), .val (.int (1 : Int32)), .val (.int (1 : Int32)), .val (.int (Int32.ofNat dn1855)), .val (.int (Int32.ofNat dn1856)), .val (.int (Int32.ofNat dn1857)), .val (.int (Int32.ofNat dn1858)), .val (.int (Int32.ofNat dn1859)), .unset, .unset, .unset, .unset] [(.int (Int32.ofNat ln))]))) (fun t kt => ?_) ?_
      · show Steps p.tables e below (T1859.setTop (mkF m 156 #[.val (.int p0), .val (.int p1), .val (.int p2), .val (.int p3), .val (.int p4), .val (.int p5), .val (.int (Int32.ofNat ln)), .val (.int (Int32.ofNat n)), .val (.int v1691), .val (.int v1695), .val (.int v1699), .val (.int v1703), .val (.int v1707), .val (.int (1 : Int32)), .val (.int (1 : Int32)), .val (.int (Int32.ofNat dn1855)), .val (.int (Int32.ofNat dn1856)), .val (.int (Int32.ofNat dn1857)), .val (.int (Int32.ofNat dn1858)), .unset, .unset, .unset, .unset, .unset] [(.int (Int32.ofNat dn1859))])) _
        refine XS.istore X1859.here hx rfl (own_hb hby at_156) rfl (l' := #[.val (.int p0), .val (.int p1), .val (.int p2), .val (.int p3), .val (.int p4), .val (.int p5), .val (.int (Int32.ofNat ln)), .val (.int (Int32.ofNat n)), .val (.int v1691), .val (.int v1695), .val (.int v1699), .val (.int v1703), .val (.int v1707), .val (.int (1 : Int32)), .val (.int (1 : Int32)), .val (.int (Int32.ofNat dn1855)), .val (.int (Int32.ofNat dn1856)), .val (.int (Int32.ofNat dn1857)), .val (.int (Int32.ofNat dn1858)), .val (.int (Int32.ofNat dn1859)), .unset, .unset, .unset, .unset]) rfl ?_
        refine XS.iload X1859.here hx rfl (own_hb hby at_158) rfl ?_
        exact kt
      obtain ⟨T1860, h1860, X1860, e1860, E1860, A1860, Q1860, st1860⟩ := own_newPx X1859 hx hZ (hw _ (List.mem_of_getElem? (i := 4) rfl)) hh1859 (g := (mkF m 160 #[.val (.int p0), .val (.int p1), .val (.int p2), .val (.int p3), .val (.int p4), .val (.int p5), .val (.int (Int32.ofNat ln)), .val (.int (Int32.ofNat n)), .val (.int v1691), .val (.int v1695), .val (.int v1699), .val (.int v1703), .val (.int v1707), .val (.int (1 : Int32)), .val (.int (1 : Int32)), .val (.int (Int32.ofNat dn1855)), .val (.int (Int32.ofNat dn1856)), .val (.int (Int32.ofNat dn1857)), .val (.int (Int32.ofNat dn1858)), .val (.int (Int32.ofNat dn1859)), .unset, .unset, .unset, .unset] [(.int (Int32.ofNat ln))])) rfl (own_hb hby at_160) rfl (n := ln) (cap := 7) rfl hln (by decide) (by decide) (by decide)
      obtain ⟨b1860, g1860⟩ : ∃ z, z = h0.size := ⟨_, rfl⟩
      rw [← g1860] at A1860 st1860 Q1860
      have gx1860 : n0 ≤ b1860 := Nat.le_trans Z0 (Nat.le_of_eq g1860.symm)
      refine own_Go.of (S' := (T1860.setTop (mkF m 162 #[.val (.int p0), .val (.int p1), .val (.int p2), .val (.int p3), .val (.int p4), .val (.int p5), .val (.int (Int32.ofNat ln)), .val (.int (Int32.ofNat n)), .val (.int v1691), .val (.int v1695), .val (.int v1699), .val (.int v1703), .val (.int v1707), .val (.int (1 : Int32)), .val (.int (1 : Int32)), .val (.int (Int32.ofNat dn1855)), .val (.int (Int32.ofNat dn1856)), .val (.int (Int32.ofNat dn1857)), .val (.int (Int32.ofNat dn1858)), .val (.int (Int32.ofNat dn1859)), .unset, .unset, .unset, .unset] [(.ref b1860)]))) st1860 ?_
      have hk1861 := Nat.le_trans hk0 E1860.1
      have z1862 := Nat.le_trans Z0 E1860.1
      have f1863 : own_Ar Z h1860 b1860 .byte ln (own_I (fun _ => (0 : Int32))) := A1860
      have f1864 : Exa Z h1860 b1860 "[B" := Q1860
      refine own_Go.of (S' := (T1860.setTop (mkF m 164 #[.val (.int p0), .val (.int p1), .val (.int p2), .val (.int p3), .val (.int p4), .val (.int p5), .val (.int (Int32.ofNat ln)), .val (.int (Int32.ofNat n)), .val (.int v1691), .val (.int v1695), .val (.int v1699), .val (.int v1703), .val (.int v1707), .val (.int (1 : Int32)), .val (.int (1 : Int32)), .val (.int (Int32.ofNat dn1855)), .val (.int (Int32.ofNat dn1856)), .val (.int (Int32.ofNat dn1857)), .val (.int (Int32.ofNat dn1858)), .val (.int (Int32.ofNat dn1859)), .val (.ref b1860), .unset, .unset, .unset] []))) (fun t kt => ?_) ?_
      · show Steps p.tables e below (T1860.setTop (mkF m 162 #[.val (.int p0), .val (.int p1), .val (.int p2), .val (.int p3), .val (.int p4), .val (.int p5), .val (.int (Int32.ofNat ln)), .val (.int (Int32.ofNat n)), .val (.int v1691), .val (.int v1695), .val (.int v1699), .val (.int v1703), .val (.int v1707), .val (.int (1 : Int32)), .val (.int (1 : Int32)), .val (.int (Int32.ofNat dn1855)), .val (.int (Int32.ofNat dn1856)), .val (.int (Int32.ofNat dn1857)), .val (.int (Int32.ofNat dn1858)), .val (.int (Int32.ofNat dn1859)), .unset, .unset, .unset, .unset] [(.ref b1860)])) _
        refine XS.astore X1860.here hx rfl (own_hb hby at_162) rfl rfl (l' := #[.val (.int p0), .val (.int p1), .val (.int p2), .val (.int p3), .val (.int p4), .val (.int p5), .val (.int (Int32.ofNat ln)), .val (.int (Int32.ofNat n)), .val (.int v1691), .val (.int v1695), .val (.int v1699), .val (.int v1703), .val (.int v1707), .val (.int (1 : Int32)), .val (.int (1 : Int32)), .val (.int (Int32.ofNat dn1855)), .val (.int (Int32.ofNat dn1856)), .val (.int (Int32.ofNat dn1857)), .val (.int (Int32.ofNat dn1858)), .val (.int (Int32.ofNat dn1859)), .val (.ref b1860), .unset, .unset, .unset]) rfl ?_
        exact kt
      obtain ⟨T1865, h1865, X1865, e1865, E1865, A1865, D1865, -, st1865⟩ := newO X1860 hx hZ hown (hw _ (List.mem_of_getElem? (i := 5) rfl)) (hw _ (List.mem_of_getElem? (i := 6) rfl)) (hw _ (List.mem_of_getElem? (i := 7) rfl)) e1860 (g := (mkF m 164 #[.val (.int p0), .val (.int p1), .val (.int p2), .val (.int p3), .val (.int p4), .val (.int p5), .val (.int (Int32.ofNat ln)), .val (.int (Int32.ofNat n)), .val (.int v1691), .val (.int v1695), .val (.int v1699), .val (.int v1703), .val (.int v1707), .val (.int (1 : Int32)), .val (.int (1 : Int32)), .val (.int (Int32.ofNat dn1855)), .val (.int (Int32.ofNat dn1856)), .val (.int (Int32.ofNat dn1857)), .val (.int (Int32.ofNat dn1858)), .val (.int (Int32.ofNat dn1859)), .val (.ref b1860), .unset, .unset, .unset] [])) rfl (own_hb hby at_164) (by decide) (by decide)
      obtain ⟨b1865, g1865⟩ : ∃ z, z = h1860.size := ⟨_, rfl⟩
      rw [← g1865] at A1865 D1865 st1865
      have gx1865 : n0 ≤ b1865 := Nat.le_trans z1862 (Nat.le_of_eq g1865.symm)
      have ne1866 : b1860 ≠ b1865 := Nat.ne_of_lt (Nat.lt_of_lt_of_le f1863.lt (Nat.le_of_eq g1865.symm))
      refine own_Go.of (S' := (T1865.setTop (mkF m 167 #[.val (.int p0), .val (.int p1), .val (.int p2), .val (.int p3), .val (.int p4), .val (.int p5), .val (.int (Int32.ofNat ln)), .val (.int (Int32.ofNat n)), .val (.int v1691), .val (.int v1695), .val (.int v1699), .val (.int v1703), .val (.int v1707), .val (.int (1 : Int32)), .val (.int (1 : Int32)), .val (.int (Int32.ofNat dn1855)), .val (.int (Int32.ofNat dn1856)), .val (.int (Int32.ofNat dn1857)), .val (.int (Int32.ofNat dn1858)), .val (.int (Int32.ofNat dn1859)), .val (.ref b1860), .unset, .unset, .unset] [(.ref b1865)]))) st1865 ?_
      have hk1867 := Nat.le_trans hk1861 E1865.1
      have f1868 := f1863.ext E1865
      have f1869 := f1864.ext E1865
      have z1870 := Nat.le_trans z1862 E1865.1
      have f1871 : Fld Z h1865 b1865 "com/example/quayside/quayside/Row" "bytes" "[B" .null := D1865 (Or.inl (hw _ (List.mem_of_getElem? (i := 15) rfl))) (ty := (.array .byte)) (by decide)
      have f1872 : Fld Z h1865 b1865 "com/example/quayside/quayside/Row" "starts" "[I" .null := D1865 (Or.inl (hw _ (List.mem_of_getElem? (i := 18) rfl))) (ty := (.array .int)) (by decide)
      have f1873 : Fld Z h1865 b1865 "com/example/quayside/quayside/Row" "ends" "[I" .null := D1865 (Or.inl (hw _ (List.mem_of_getElem? (i := 20) rfl))) (ty := (.array .int)) (by decide)
      have f1874 : Fld Z h1865 b1865 "com/example/quayside/quayside/Row" "text" "Z" (.int (0 : Int32)) := D1865 (Or.inl (hw _ (List.mem_of_getElem? (i := 40) rfl))) (ty := .boolean) (by decide)
      have f1875 : Fld Z h1865 b1865 "com/example/quayside/quayside/Row" "reach" "I" (.int (0 : Int32)) := D1865 (Or.inl (hw _ (List.mem_of_getElem? (i := 50) rfl))) (ty := .int) (by decide)
      have f1876 : Fld Z h1865 b1865 "com/example/quayside/quayside/Row" "size" "I" (.int (0 : Int32)) := D1865 (Or.inl (hw _ (List.mem_of_getElem? (i := 57) rfl))) (ty := .int) (by decide)
      have f1877 : Fld Z h1865 b1865 "com/example/quayside/quayside/Row" "nulls" "[Z" .null := D1865 (Or.inl (hw _ (List.mem_of_getElem? (i := 69) rfl))) (ty := (.array .boolean)) (by decide)
      have f1878 : Fld Z h1865 b1865 "com/example/quayside/quayside/Row" "nullCount" "I" (.int (0 : Int32)) := D1865 (Or.inl (hw _ (List.mem_of_getElem? (i := 83) rfl))) (ty := .int) (by decide)
      refine own_Go.of (S' := (T1865.setTop (mkF m 168 #[.val (.int p0), .val (.int p1), .val (.int p2), .val (.int p3), .val (.int p4), .val (.int p5), .val (.int (Int32.ofNat ln)), .val (.int (Int32.ofNat n)), .val (.int v1691), .val (.int v1695), .val (.int v1699), .val (.int v1703), .val (.int v1707), .val (.int (1 : Int32)), .val (.int (1 : Int32)), .val (.int (Int32.ofNat dn1855)), .val (.int (Int32.ofNat dn1856)), .val (.int (Int32.ofNat dn1857)), .val (.int (Int32.ofNat dn1858)), .val (.int (Int32.ofNat dn1859)), .val (.ref b1860), .unset, .unset, .unset] [(.ref b1865), (.ref b1865)]))) (fun t kt => ?_) ?_
      · show Steps p.tables e below (T1865.setTop (mkF m 167 #[.val (.int p0), .val (.int p1), .val (.int p2), .val (.int p3), .val (.int p4), .val (.int p5), .val (.int (Int32.ofNat ln)), .val (.int (Int32.ofNat n)), .val (.int v1691), .val (.int v1695), .val (.int v1699), .val (.int v1703), .val (.int v1707), .val (.int (1 : Int32)), .val (.int (1 : Int32)), .val (.int (Int32.ofNat dn1855)), .val (.int (Int32.ofNat dn1856)), .val (.int (Int32.ofNat dn1857)), .val (.int (Int32.ofNat dn1858)), .val (.int (Int32.ofNat dn1859)), .val (.ref b1860), .unset, .unset, .unset] [(.ref b1865)])) _
        refine XS.dup X1865.here hx rfl (own_hb hby at_167) rfl rfl ?_
        exact kt
      obtain ⟨_, _, ⟨T1879, L1879, k1879, n1879⟩, -, X1879, ⟨Lc1879, hQ1879, l1879, y1879, z1879⟩, st1879⟩ := X1865.specialBack hx (y := (⟨"com/example/quayside/quayside/Row", "<init>", "()V"⟩ : MethodName)) rfl hown (mvT hZ (hw _ (List.mem_of_getElem? (i := 8) rfl))) (mvT hZ (hw _ (List.mem_of_getElem? (i := 9) rfl))) (mvT hZ (hw _ (List.mem_of_getElem? (i := 10) rfl))) (by decide) (backOf (W := 1) (rm2 l Z a0 hw [] b1865 .null .null .null h1865 n0 z1870 A1865 f1871 f1872 f1873 f1876 f1875 f1874 f1877 f1878 gx1865) hZ (hw _ (List.mem_of_getElem? (i := 10) rfl)) (hw _ (List.mem_of_getElem? (i := 7) rfl)) (by decide) (by decide)) (g := (mkF m 168 #[.val (.int p0), .val (.int p1), .val (.int p2), .val (.int p3), .val (.int p4), .val (.int p5), .val (.int (Int32.ofNat ln)), .val (.int (Int32.ofNat n)), .val (.int v1691), .val (.int v1695), .val (.int v1699), .val (.int v1703), .val (.int v1707), .val (.int (1 : Int32)), .val (.int (1 : Int32)), .val (.int (Int32.ofNat dn1855)), .val (.int (Int32.ofNat dn1856)), .val (.int (Int32.ofNat dn1857)), .val (.int (Int32.ofNat dn1858)), .val (.int (Int32.ofNat dn1859)), .val (.ref b1860), .unset, .unset, .unset] [(.ref b1865), (.ref b1865)])) rfl (by rw [hml]; rfl) (Steps.refl _) (a := b1865) (argsL := []) (rest := [(.ref b1865)]) (lenOf pd_5 rfl) rfl (by show 2 * 0 + _ ≤ _; exact Nat.le_of_eq rfl) (own_hb hby at_168) (fun _ _ => ⟨rfl, e1865, (by decide : 2 + 3 ≤ _), (by decide : 15 + 8 ≤ _)⟩)
      dsimp only [Pt.U, Pt.locs, Pt.cells, Pt.slots] at X1879 l1879 y1879 z1879 st1879 hQ1879
      subst l1879 y1879 z1879
      obtain ⟨bs1879, rs1879, re1879, rfl, N1879q, K1879, p1879_0, p1879_1, p1879_2, p1879_3, p1879_4, p1879_5, p1879_6, p1879_7, p1879_8, p1879_9, p1879_10, p1879_11, p1879_12, p1879_13, p1879_14⟩ := hQ1879
      have N1879 := Fr.app N1859 N1879q
      refine own_Go.of (S' := (T1879.setTop (mkF m 171 #[.val (.int p0), .val (.int p1), .val (.int p2), .val (.int p3), .val (.int p4), .val (.int p5), .val (.int (Int32.ofNat ln)), .val (.int (Int32.ofNat n)), .val (.int v1691), .val (.int v1695), .val (.int v1699), .val (.int v1703), .val (.int v1707), .val (.int (1 : Int32)), .val (.int (1 : Int32)), .val (.int (Int32.ofNat dn1855)), .val (.int (Int32.ofNat dn1856)), .val (.int (Int32.ofNat dn1857)), .val (.int (Int32.ofNat dn1858)), .val (.int (Int32.ofNat dn1859)), .val (.ref b1860), .unset, .unset, .unset] [(.ref b1865)]))) (fun t kt => st1879.trans kt) ?_
      have gx1880 : n0 ≤ bs1879 := Nat.le_trans z1870 p1879_0
      have ne1881 : b1860 ≠ bs1879 := Nat.ne_of_lt (Nat.lt_of_lt_of_le f1868.lt p1879_0)
      have ne1882 : b1865 ≠ bs1879 := Nat.ne_of_lt (Nat.lt_of_lt_of_le A1865.lt p1879_0)
      have gx1883 : n0 ≤ rs1879 := Nat.le_trans z1870 p1879_1
      have ne1884 : b1860 ≠ rs1879 := Nat.ne_of_lt (Nat.lt_of_lt_of_le f1868.lt p1879_1)
      have ne1885 : b1865 ≠ rs1879 := Nat.ne_of_lt (Nat.lt_of_lt_of_le A1865.lt p1879_1)
      have gx1886 : n0 ≤ re1879 := Nat.le_trans z1870 p1879_2
      have ne1887 : b1860 ≠ re1879 := Nat.ne_of_lt (Nat.lt_of_lt_of_le f1868.lt p1879_2)
      have ne1888 : b1865 ≠ re1879 := Nat.ne_of_lt (Nat.lt_of_lt_of_le A1865.lt p1879_2)
      have hk1889 := Nat.le_trans hk1867 K1879.1
      have f1890 := f1868.keep K1879 (ninS ne1866 nin0)
      have f1891 := f1869.keep K1879
      have f1892 := A1865.keep K1879
      have z1893 := Nat.le_trans z1870 K1879.1
      refine own_Go.of (S' := (T1879.setTop (mkF m 183 #[.val (.int p0), .val (.int p1), .val (.int p2), .val (.int p3), .val (.int p4), .val (.int p5), .val (.int (Int32.ofNat ln)), .val (.int (Int32.ofNat n)), .val (.int v1691), .val (.int v1695), .val (.int v1699), .val (.int v1703), .val (.int v1707), .val (.int (1 : Int32)), .val (.int (1 : Int32)), .val (.int (Int32.ofNat dn1855)), .val (.int (Int32.ofNat dn1856)), .val (.int (Int32.ofNat dn1857)), .val (.int (Int32.ofNat dn1858)), .val (.int (Int32.ofNat dn1859)), .val (.ref b1860), .val (.ref b1865), .unset, .unset] [(.int (2147483647 : Int32)), (.int (0 : Int32)), (.ref b1865)]))) (fun t kt => ?_) ?_
      · show Steps p.tables e below (T1879.setTop (mkF m 171 #[.val (.int p0), .val (.int p1), .val (.int p2), .val (.int p3), .val (.int p4), .val (.int p5), .val (.int (Int32.ofNat ln)), .val (.int (Int32.ofNat n)), .val (.int v1691), .val (.int v1695), .val (.int v1699), .val (.int v1703), .val (.int v1707), .val (.int (1 : Int32)), .val (.int (1 : Int32)), .val (.int (Int32.ofNat dn1855)), .val (.int (Int32.ofNat dn1856)), .val (.int (Int32.ofNat dn1857)), .val (.int (Int32.ofNat dn1858)), .val (.int (Int32.ofNat dn1859)), .val (.ref b1860), .unset, .unset, .unset] [(.ref b1865)])) _
        refine XS.astore X1879.here hx rfl (own_hb hby at_171) rfl rfl (l' := #[.val (.int p0), .val (.int p1), .val (.int p2), .val (.int p3), .val (.int p4), .val (.int p5), .val (.int (Int32.ofNat ln)), .val (.int (Int32.ofNat n)), .val (.int v1691), .val (.int v1695), .val (.int v1699), .val (.int v1703), .val (.int v1707), .val (.int (1 : Int32)), .val (.int (1 : Int32)), .val (.int (Int32.ofNat dn1855)), .val (.int (Int32.ofNat dn1856)), .val (.int (Int32.ofNat dn1857)), .val (.int (Int32.ofNat dn1858)), .val (.int (Int32.ofNat dn1859)), .val (.ref b1860), .val (.ref b1865), .unset, .unset]) rfl ?_
        refine XS.iload X1879.here hx rfl (own_hb hby at_173) rfl ?_
        refine XS.ifNo X1879.here hx rfl (own_hb hby at_175) rfl ((if0 _ _).trans (feq (by decide : ¬ ((1 : Int32) = (0 : Int32)))).1) ?_
        refine XS.aload X1879.here hx rfl (own_hb hby at_178) rfl rfl ?_
        show Steps p.tables e below (T1879.setTop (mkF m 180 #[.val (.int p0), .val (.int p1), .val (.int p2), .val (.int p3), .val (.int p4), .val (.int p5), .val (.int (Int32.ofNat ln)), .val (.int (Int32.ofNat n)), .val (.int v1691), .val (.int v1695), .val (.int v1699), .val (.int v1703), .val (.int v1707), .val (.int (1 : Int32)), .val (.int (1 : Int32)), .val (.int (Int32.ofNat dn1855)), .val (.int (Int32.ofNat dn1856)), .val (.int (Int32.ofNat dn1857)), .val (.int (Int32.ofNat dn1858)), .val (.int (Int32.ofNat dn1859)), .val (.ref b1860), .val (.ref b1865), .unset, .unset] [(.ref b1865)])) _
        refine XS.iconst X1879.here hx rfl (own_hb hby at_180) ?_
        show Steps p.tables e below (T1879.setTop (mkF m 181 #[.val (.int p0), .val (.int p1), .val (.int p2), .val (.int p3), .val (.int p4), .val (.int p5), .val (.int (Int32.ofNat ln)), .val (.int (Int32.ofNat n)), .val (.int v1691), .val (.int v1695), .val (.int v1699), .val (.int v1703), .val (.int v1707), .val (.int (1 : Int32)), .val (.int (1 : Int32)), .val (.int (Int32.ofNat dn1855)), .val (.int (Int32.ofNat dn1856)), .val (.int (Int32.ofNat dn1857)), .val (.int (Int32.ofNat dn1858)), .val (.int (Int32.ofNat dn1859)), .val (.ref b1860), .val (.ref b1865), .unset, .unset] [(.int (0 : Int32)), (.ref b1865)])) _
        refine X1879.ldcInt hx hown (mvT hZ (hw _ (List.mem_of_getElem? (i := 87) rfl))) (g := (mkF m 181 #[.val (.int p0), .val (.int p1), .val (.int p2), .val (.int p3), .val (.int p4), .val (.int p5), .val (.int (Int32.ofNat ln)), .val (.int (Int32.ofNat n)), .val (.int v1691), .val (.int v1695), .val (.int v1699), .val (.int v1703), .val (.int v1707), .val (.int (1 : Int32)), .val (.int (1 : Int32)), .val (.int (Int32.ofNat dn1855)), .val (.int (Int32.ofNat dn1856)), .val (.int (Int32.ofNat dn1857)), .val (.int (Int32.ofNat dn1858)), .val (.int (Int32.ofNat dn1859)), .val (.ref b1860), .val (.ref b1865), .unset, .unset] [(.int (0 : Int32)), (.ref b1865)])) rfl (own_hb hby at_181) _ ?_
        exact kt
      obtain ⟨cq1894, kq1894, q1894a, q1894b, q1894c⟩ := isOf hZ rfl p1879_4
      obtain ⟨_, _, ⟨T1894, L1894, k1894, n1894⟩, -, X1894, ⟨Lc1894, hQ1894, l1894, y1894, z1894⟩, st1894⟩ := X1879.virtualBack hx (y := (⟨"com/example/quayside/quayside/Row", "add", "(II)V"⟩ : MethodName)) (z := (⟨"com/example/quayside/quayside/Row", "add", "(II)V"⟩ : MethodName)) hown (mvT hZ (hw _ (List.mem_of_getElem? (i := 51) rfl))) (mvT hZ (hw _ (List.mem_of_getElem? (i := 52) rfl))) (notFace_of_selects (args := #[]) (mvT hZ (hw _ (List.mem_of_getElem? (i := 54) rfl)))) (mvT hZ (hw _ (List.mem_of_getElem? (i := 54) rfl))) (mvT hZ (hw _ (List.mem_of_getElem? (i := 53) rfl))) (by decide) (backOf (W := 0) (rm8s l Z a0 hw [] b1865 0 (2147483647 : Int32) rs1879 re1879 0 4 (fun _ => (0 : Int32)) (fun _ => (0 : Int32)) (0 : Int32) (0 : Int32) bs1879 .null (0 : Int32) T1879.heap n0 z1893 p1879_4 p1879_6 p1879_7 p1879_8 p1879_9 p1879_10 p1879_5 p1879_11 p1879_12 p1879_13 p1879_14 gx1865 gx1883 gx1886 ne1885 ne1888 p1879_3 (by decide) (by decide) (by decide) (by decide)) hZ (hw _ (List.mem_of_getElem? (i := 55) rfl)) (hw _ (List.mem_of_getElem? (i := 7) rfl)) (by decide) (by decide)) q1894a q1894c (g := (mkF m 183 #[.val (.int p0), .val (.int p1), .val (.int p2), .val (.int p3), .val (.int p4), .val (.int p5), .val (.int (Int32.ofNat ln)), .val (.int (Int32.ofNat n)), .val (.int v1691), .val (.int v1695), .val (.int v1699), .val (.int v1703), .val (.int v1707), .val (.int (1 : Int32)), .val (.int (1 : Int32)), .val (.int (Int32.ofNat dn1855)), .val (.int (Int32.ofNat dn1856)), .val (.int (Int32.ofNat dn1857)), .val (.int (Int32.ofNat dn1858)), .val (.int (Int32.ofNat dn1859)), .val (.ref b1860), .val (.ref b1865), .unset, .unset] [(.int (2147483647 : Int32)), (.int (0 : Int32)), (.ref b1865)])) rfl (by rw [hml]; rfl) (Steps.refl _) (argsL := [(.int (0 : Int32)), (.int (2147483647 : Int32))]) (rest := []) (lenOf pd_2 rfl) rfl (by show 2 * 0 + _ ≤ _; exact Nat.le_of_eq rfl) (own_hb hby at_183) (fun _ _ => ⟨rfl, rfl, (by decide : 5 + 0 ≤ _), (by decide : 23 + 0 ≤ _)⟩)
      dsimp only [Pt.U, Pt.locs, Pt.cells, Pt.slots] at X1894 l1894 y1894 z1894 st1894 hQ1894
      subst l1894 y1894 z1894
      obtain ⟨rfl, N1894q, K1894, p1894_0, p1894_1, p1894_2, p1894_3, p1894_4, p1894_5, p1894_6, p1894_7, p1894_8, p1894_9, p1894_10⟩ := hQ1894
      have N1894 := Fr.app N1879 N1894q
      refine own_Go.of (S' := (T1894.setTop (mkF m 186 #[.val (.int p0), .val (.int p1), .val (.int p2), .val (.int p3), .val (.int p4), .val (.int p5), .val (.int (Int32.ofNat ln)), .val (.int (Int32.ofNat n)), .val (.int v1691), .val (.int v1695), .val (.int v1699), .val (.int v1703), .val (.int v1707), .val (.int (1 : Int32)), .val (.int (1 : Int32)), .val (.int (Int32.ofNat dn1855)), .val (.int (Int32.ofNat dn1856)), .val (.int (Int32.ofNat dn1857)), .val (.int (Int32.ofNat dn1858)), .val (.int (Int32.ofNat dn1859)), .val (.ref b1860), .val (.ref b1865), .unset, .unset] []))) (fun t kt => st1894.trans kt) ?_
      have hk1895 := Nat.le_trans hk1889 K1894.1
      have f1896 := f1890.keep K1894 (ninS ne1866 (ninS ne1884 (ninS ne1887 nin0)))
      have f1897 := f1891.keep K1894
      have f1898 := p1879_4.keep K1894
      have z1899 := Nat.le_trans z1893 K1894.1
      refine own_Go.of (S' := (T1894.setTop (mkF m 188 #[.val (.int p0), .val (.int p1), .val (.int p2), .val (.int p3), .val (.int p4), .val (.int p5), .val (.int (Int32.ofNat ln)), .val (.int (Int32.ofNat n)), .val (.int v1691), .val (.int v1695), .val (.int v1699), .val (.int v1703), .val (.int v1707), .val (.int (1 : Int32)), .val (.int (1 : Int32)), .val (.int (Int32.ofNat dn1855)), .val (.int (Int32.ofNat dn1856)), .val (.int (Int32.ofNat dn1857)), .val (.int (Int32.ofNat dn1858)), .val (.int (Int32.ofNat dn1859)), .val (.ref b1860), .val (.ref b1865), .unset, .unset] [(.ref b1865)]))) (fun t kt => ?_) ?_
      · show Steps p.tables e below (T1894.setTop (mkF m 186 #[.val (.int p0), .val (.int p1), .val (.int p2), .val (.int p3), .val (.int p4), .val (.int p5), .val (.int (Int32.ofNat ln)), .val (.int (Int32.ofNat n)), .val (.int v1691), .val (.int v1695), .val (.int v1699), .val (.int v1703), .val (.int v1707), .val (.int (1 : Int32)), .val (.int (1 : Int32)), .val (.int (Int32.ofNat dn1855)), .val (.int (Int32.ofNat dn1856)), .val (.int (Int32.ofNat dn1857)), .val (.int (Int32.ofNat dn1858)), .val (.int (Int32.ofNat dn1859)), .val (.ref b1860), .val (.ref b1865), .unset, .unset] [])) _
        refine XS.aload X1894.here hx rfl (own_hb hby at_186) rfl rfl ?_
        exact kt
      obtain ⟨cq1900, kq1900, q1900a, q1900b, q1900c⟩ := isOf hZ rfl p1894_0
      obtain ⟨_, _, ⟨T1900, L1900, k1900, n1900⟩, -, X1900, ⟨Lc1900, hQ1900, l1900, y1900, z1900⟩, st1900⟩ := X1894.virtualBack hx (y := (⟨"com/example/quayside/quayside/Row", "clear", "()V"⟩ : MethodName)) (z := (⟨"com/example/quayside/quayside/Row", "clear", "()V"⟩ : MethodName)) hown (mvT hZ (hw _ (List.mem_of_getElem? (i := 88) rfl))) (mvT hZ (hw _ (List.mem_of_getElem? (i := 89) rfl))) (notFace_of_selects (args := #[]) (mvT hZ (hw _ (List.mem_of_getElem? (i := 91) rfl)))) (mvT hZ (hw _ (List.mem_of_getElem? (i := 91) rfl))) (mvT hZ (hw _ (List.mem_of_getElem? (i := 90) rfl))) (by decide) (backOf (W := 0) (rm14 l Z a0 hw [] b1865 bs1879 rs1879 re1879 (.int (Int32.ofNat (0 + 1))) (.int (own_maxI (0 : Int32) (2147483647 : Int32))) (.int (0 : Int32)) T1894.heap n0 z1899 p1894_0 p1894_6 p1894_1 p1894_2 p1894_3 p1894_4 p1894_5 p1894_7 p1894_8 gx1865) hZ (hw _ (List.mem_of_getElem? (i := 92) rfl)) (hw _ (List.mem_of_getElem? (i := 7) rfl)) (by decide) (by decide)) q1900a q1900c (g := (mkF m 188 #[.val (.int p0), .val (.int p1), .val (.int p2), .val (.int p3), .val (.int p4), .val (.int p5), .val (.int (Int32.ofNat ln)), .val (.int (Int32.ofNat n)), .val (.int v1691), .val (.int v1695), .val (.int v1699), .val (.int v1703), .val (.int v1707), .val (.int (1 : Int32)), .val (.int (1 : Int32)), .val (.int (Int32.ofNat dn1855)), .val (.int (Int32.ofNat dn1856)), .val (.int (Int32.ofNat dn1857)), .val (.int (Int32.ofNat dn1858)), .val (.int (Int32.ofNat dn1859)), .val (.ref b1860), .val (.ref b1865), .unset, .unset] [(.ref b1865)])) rfl (by rw [hml]; rfl) (Steps.refl _) (argsL := []) (rest := []) (lenOf pd_5 rfl) rfl (by show 2 * 0 + _ ≤ _; exact Nat.le_of_eq rfl) (own_hb hby at_188) (fun _ _ => ⟨rfl, rfl, (by decide : 5 + 0 ≤ _), (by decide : 23 + 0 ≤ _)⟩)
      dsimp only [Pt.U, Pt.locs, Pt.cells, Pt.slots] at X1900 l1900 y1900 z1900 st1900 hQ1900
      subst l1900 y1900 z1900
      obtain ⟨rfl, N1900q, K1900, p1900_0, p1900_1, p1900_2, p1900_3, p1900_4, p1900_5, p1900_6, p1900_7, p1900_8⟩ := hQ1900
      have N1900 := Fr.app N1894 N1900q
      refine own_Go.of (S' := (T1900.setTop (mkF m 191 #[.val (.int p0), .val (.int p1), .val (.int p2), .val (.int p3), .val (.int p4), .val (.int p5), .val (.int (Int32.ofNat ln)), .val (.int (Int32.ofNat n)), .val (.int v1691), .val (.int v1695), .val (.int v1699), .val (.int v1703), .val (.int v1707), .val (.int (1 : Int32)), .val (.int (1 : Int32)), .val (.int (Int32.ofNat dn1855)), .val (.int (Int32.ofNat dn1856)), .val (.int (Int32.ofNat dn1857)), .val (.int (Int32.ofNat dn1858)), .val (.int (Int32.ofNat dn1859)), .val (.ref b1860), .val (.ref b1865), .unset, .unset] []))) (fun t kt => st1900.trans kt) ?_
      have hk1901 := Nat.le_trans hk1895 K1900.1
      have f1902 := f1896.keep K1900 (ninS ne1866 nin0)
      have f1903 := f1897.keep K1900
      have f1904 := p1894_0.keep K1900
      have f1905 := p1894_9.keep K1900 (ninS (Ne.symm ne1885) nin0)
      have f1906 := p1894_10.keep K1900 (ninS (Ne.symm ne1888) nin0)
      have z1907 := Nat.le_trans z1899 K1900.1
      have f1908 : Fld Z T1900.heap b1865 "com/example/quayside/quayside/Row" "size" "I" (.int (Int32.ofNat 0)) := p1900_4
      have rowL : own_Row Z T1900.heap n0 b1860 b1865 0 4 (own_D v1691 v1695 v1699 v1703 v1707 dn1855 dn1856 dn1857 dn1858 dn1859) bs1879 := ⟨rs1879, re1879, (own_set (fun _ => (0 : Int32)) 0 (Int32.ofNat 0)), (own_set (fun _ => (0 : Int32)) 0 (2147483647 : Int32)), (0 : Int32), (0 : Int32), p1900_0, p1900_2, p1900_3, f1908, p1900_5, p1900_6, p1900_1, f1905, f1906, gx1865, gx1883, gx1886, ne1885, ne1888, p1879_3, ne1866, ne1884, ne1887, (by decide), (Or.inl rfl), ⟨(fun i hi => absurd hi (Nat.not_lt_zero i)), own_Rch.zero⟩, Or.inl ⟨p1900_7, p1900_8⟩⟩
      refine own_Go.of (S' := (T1900.setTop (mkF m 203 #[.val (.int p0), .val (.int p1), .val (.int p2), .val (.int p3), .val (.int p4), .val (.int p5), .val (.int (Int32.ofNat ln)), .val (.int (Int32.ofNat n)), .val (.int v1691), .val (.int v1695), .val (.int v1699), .val (.int v1703), .val (.int v1707), .val (.int (1 : Int32)), .val (.int (1 : Int32)), .val (.int (Int32.ofNat dn1855)), .val (.int (Int32.ofNat dn1856)), .val (.int (Int32.ofNat dn1857)), .val (.int (Int32.ofNat dn1858)), .val (.int (Int32.ofNat dn1859)), .val (.ref b1860), .val (.ref b1865), .unset, .unset] []))) (fun t kt => ?_) ?_
      · show Steps p.tables e below (T1900.setTop (mkF m 191 #[.val (.int p0), .val (.int p1), .val (.int p2), .val (.int p3), .val (.int p4), .val (.int p5), .val (.int (Int32.ofNat ln)), .val (.int (Int32.ofNat n)), .val (.int v1691), .val (.int v1695), .val (.int v1699), .val (.int v1703), .val (.int v1707), .val (.int (1 : Int32)), .val (.int (1 : Int32)), .val (.int (Int32.ofNat dn1855)), .val (.int (Int32.ofNat dn1856)), .val (.int (Int32.ofNat dn1857)), .val (.int (Int32.ofNat dn1858)), .val (.int (Int32.ofNat dn1859)), .val (.ref b1860), .val (.ref b1865), .unset, .unset] [])) _
        refine XS.iload X1900.here hx rfl (own_hb hby at_191) rfl ?_
        refine XS.ifYes X1900.here hx rfl (pc0 := 193) (pc' := 203) rfl (own_hb hby at_193) rfl ((if0 _ _).trans (feq (by decide : ¬ ((1 : Int32) = (0 : Int32)))).2) (by decide) (by decide) ?_
        exact kt
      exact seg203l (vm0 := s.vm) hw hx hZ hS0 hby hml hret hlk hown hnm p0 p1 p2 p3 p4 p5 h0 n0 ln n v1691 v1695 v1699 v1703 v1707 (1 : Int32) dn1855 dn1856 dn1857 dn1858 dn1859 b1860 b1865 4 (own_D v1691 v1695 v1699 v1703 v1707 dn1855 dn1856 dn1857 dn1858 dn1859) (own_I (fun _ => (0 : Int32))) bs1879 (own_mono X1900 (by decide) (by decide)) rfl N1900 z1907 rowL f1902 f1903 hln hn hbbv1691 hbbv1695 hbbv1699 hbbv1703 hbbv1707 p1855_0 p1856_0 p1857_0 p1858_0 p1859_0 (fun _ => rfl) (fun _ => rfl) (fun _ => rfl) (fun _ => rfl) (fun _ => rfl) hk1901
set_option maxRecDepth 65536 in
set_option maxHeartbeats 40000000 in
theorem comes_1 {Post : Tables → Env → Array Value → State → Outcome → State → Prop} (hpost : ∀ tb e args s v u, (limb_1_1.after args s (.returned v) u = true ∧ limb_1_2.after args s (.returned v) u = true ∧ True) → ReturnedEndW s (.returned v) u (Jvm.fieldLocs frame_1_writes args s ++ Jvm.arrayLocs frame_1_arrays args s ++ Jvm.staticLocs frame_1_statics s) 32 1216 → Post tb e args s (.returned v) u) :
    ArmFor flags0 classFile x code maxLocals ret World_1 tables_1 room_1 Calls_1 rest_1 Pre_1 Post := by
  intro l hfl _ _ p e ha hc hk s m args below hf hA hF happ hP
  obtain ⟨hcalls, hrest, hpre⟩ := hP
  obtain ⟨-, -, -, hnamed, -, -, -, hat⟩ := (Spec.applies_iff hf).mp happ
  obtain ⟨hg, hn⟩ := and_e (Cond.before_iff.mp (show (Jvm.Cond.and given_1 narrow_1).before args s = true from hpre))
  obtain ⟨gc, gr0⟩ := and_e hg
  obtain ⟨ga0, gr1⟩ := and_e gr0
  obtain ⟨ga1, gr2⟩ := and_e gr1
  obtain ⟨ga2, gr3⟩ := and_e gr2
  obtain ⟨ga3, gr4⟩ := and_e gr3
  obtain ⟨ga4, gr5⟩ := and_e gr4
  obtain ⟨w0, w1, w2, w3, w4, w5, rfl⟩ : ∃ w0 w1 w2 w3 w4 w5 : Value, args = #[w0, w1, w2, w3, w4, w5] := by
    have hs : args.size = 6 := by simpa [Cond.value, given_1] using gc
    obtain ⟨L⟩ := args
    match L, hs with
    | [w0, w1, w2, w3, w4, w5], _ => exact ⟨w0, w1, w2, w3, w4, w5, rfl⟩
  have hw := fun d (hd : d ∈ tables_1) => atoms_spec (ws := Jvm.Cond.code x code maxLocals ret :: tables_1) hat d (List.mem_cons_of_mem _ hd)
  have hfit : Fit s := fun {y c} hc i hi => by
    obtain ⟨ha, rfl⟩ := Array.getElem?_eq_some_iff.mp hc
    have q := List.all_eq_true.mp ((Array.all_eq_true_iff_forall_mem.mp hF) _ (Array.getElem_mem ha)) i (List.mem_range.mpr hi)
    simpa [Array.getElem?_eq_getElem hi] using q
  obtain ⟨i0, ei0⟩ := is_v ga0
  obtain rfl : w0 = (.int i0) := Option.some.inj ei0
  obtain ⟨i1, ei1⟩ := is_v ga1
  obtain rfl : w1 = (.int i1) := Option.some.inj ei1
  obtain ⟨i2, ei2⟩ := is_v ga2
  obtain rfl : w2 = (.int i2) := Option.some.inj ei2
  obtain ⟨i3, ei3⟩ := is_v ga3
  obtain rfl : w3 = (.int i3) := Option.some.inj ei3
  obtain ⟨i4, ei4⟩ := is_v ga4
  obtain rfl : w4 = (.int i4) := Option.some.inj ei4
  obtain ⟨i5, ei5⟩ := is_v gr5
  obtain rfl : w5 = (.int i5) := Option.some.inj ei5
  obtain ⟨n, o, h1, h2, h3, _, L, rfl, ⟨rfl, N⟩, hq⟩ := rm0 l s _ hw tables_1 i0 i1 i2 i3 i4 i5 s.heap s.heap.size (Nat.le_refl _)  p e ha hc hk s m _ below hf ((Spec.applies_iff_loose hf).mp happ).1 ⟨rfl, State.Warmed39.refl s, rfl⟩ trivial
  refine ⟨n, _, h1, h2, h3, hpost _ _ _ _ _ _ ⟨Cond.after_iff.mpr rfl, Cond.after_iff.mpr (eq_i res_at (Term.int_eval (1)) rfl), trivial⟩ ⟨hq.1, hq.2.1, hq.2.2.1, (hq.2.2.2.sift fun y hy => Or.inr (N y hy)).mono (by decide) (by decide)⟩⟩
theorem main_1_1 : Claimed_1_1 := comes_1 fun _ _ _ _ _ _ h hF => ⟨h.1, hF⟩
theorem main_1_2 : Claimed_1_2 := comes_1 fun _ _ _ _ _ _ h hF => ⟨h.2.1, hF⟩
end Jvm.Pilot.@@N@@
namespace Jvm.Pilot.@@N@@
open Jvm Jvm.ClassFile Sem Op Lib Jvm.Free Jvm.Stand Jvm.Pilot.@@N@@.Jvm.D
/-! MADE BY PROGRAM (witnessworld.py) out of the Statement's table words and the real class files: 20 classes; the members and pool entries that the words name. The judged class is class 1, her method 3. -/
namespace start1
open Jvm.ClassFile
def u (s : String) : CpInfo := .utf8 (stringToUtf16 s)
/-- a pool by its gaps: so many unusable entries, then the entry; so many at the end -/
def gap : Nat → List CpInfo → List CpInfo
  | 0, r => r
  | n + 1, r => .unusable :: gap n r
def poolList (es : List (Nat × CpInfo)) (last : Nat) : List CpInfo := es.foldr (fun e r => gap e.1 (e.2 :: r)) (gap last [])
def pool (es : List (Nat × CpInfo)) (last : Nat) : Array CpInfo := ⟨poolList es last⟩
def fileOf (pool : Array CpInfo) (this : Nat) (attrs : Array Attribute := #[]) (ms : Array MethodInfo := #[]) (fl : Nat := 33) (sup : Nat := 0) (ifs : Array Nat := #[]) (fds : Array FieldInfo := #[]) : ClassFile where
  minorVersion := 0
  majorVersion := 65
  constantPool := pool
  accessFlags := fl
  thisClass := this
  superClass := sup
  interfaces := ifs
  fields := fds
  methods := ms
  attributes := attrs
def plain (name : String) (sup : Option ClassId) : Class where
  name := name
  kind := .ordinary
  loader := none
  accessFlags := 33
  super := sup
  interfaces := #[]
  cf := none
  fields := #[]
  methods := #[]
  instanceTypes := #[]
  staticTypes := #[]
  resolved := #[]
  callSites := []
  init := .initialized
  statics := none
  mirror := none

def pool0 : Array CpInfo := pool [(5, u "<init>"), (0, u "()V"), (1, .class_ 10), (1, u "java/lang/Object")] 113

def k0c0 : Code := { maxStack := 0, maxLocals := 1, code := object_method_1_code, exceptionTable := #[], attributes := #[] }
def k0m0 : Method := { name := "<init>", desc := "()V", sig := { parameters := [], returnType := none }, accessFlags := 1, code := some k0c0 }
/-- java/lang/Object -/
def k0 : Class := { plain "java/lang/Object" none with
  accessFlags := 33
  interfaces := #[]
  cf := some (fileOf pool0 8 #[] #[{ accessFlags := 1, nameIndex := 5, descriptorIndex := 6, attributes := #[] }] 33 0 #[] #[])
  fields := #[]
  methods := #[k0m0]
  instanceTypes := #[]
  staticTypes := #[]
  resolved := Array.replicate 124 none
  statics := none }

def pool1 : Array CpInfo := pool [(2, .class_ 4), (0, .nameAndType 5 6), (0, u "java/lang/Object"), (0, u "<init>"), (0, u "()V"), (0, .integer 2147483647), (0, .methodref 9 10), (0, .class_ 11), (0, .nameAndType 12 6), (0, u "com/example/quayside/quayside/Row"), (0, u "addNull"), (0, .methodref 9 14), (0, .nameAndType 15 16), (0, u "add"), (0, u "(II)V"), (0, .methodref 18 19), (0, .class_ 20), (0, .nameAndType 21 22), (0, u "com/example/quayside/quayside/RowBeyondBytesPinLaw"), (0, u "end"), (0, u "(I)I"), (0, .methodref 9 3), (2, .methodref 9 27), (0, .nameAndType 28 6), (0, u "clear"), (0, .methodref 9 30), (0, .nameAndType 31 32), (0, u "setBytes"), (0, u "([B)V"), (0, .methodref 18 34), (0, .nameAndType 35 36), (0, u "put"), (0, u "(Lcom/example/quayside/quayside/Row;IIZI)V"), (0, .methodref 9 38), (0, .nameAndType 39 40), (0, u "beyondBytes"), (0, u "()I"), (3, u "law"), (0, u "(IIIIII)Z")] 4

def k1m0 : Method := { name := "<init>", desc := "()V", sig := { parameters := [], returnType := none }, accessFlags := 1, code := none }
def k1c1 : Code := { maxStack := 2, maxLocals := 1, code := method_2_code, exceptionTable := #[], attributes := #[] }
def k1m1 : Method := { name := "end", desc := "(I)I", sig := { parameters := [.int], returnType := some .int }, accessFlags := 10, code := some k1c1 }
def k1c2 : Code := { maxStack := 3, maxLocals := 5, code := method_3_code, exceptionTable := #[], attributes := #[] }
def k1m2 : Method := { name := "put", desc := "(Lcom/example/quayside/quayside/Row;IIZI)V", sig := { parameters := [(.object "com/example/quayside/quayside/Row"), .int, .int, .boolean, .int], returnType := none }, accessFlags := 10, code := some k1c2 }
def k1c3 : Code := { maxStack := 5, maxLocals := 24, code := code, exceptionTable := #[], attributes := #[] }
def k1m3 : Method := { name := "law", desc := "(IIIIII)Z", sig := { parameters := [.int, .int, .int, .int, .int, .int], returnType := some .boolean }, accessFlags := 9, code := some k1c3 }
/-- com/example/quayside/quayside/RowBeyondBytesPinLaw -/
def k1 : Class := { plain "com/example/quayside/quayside/RowBeyondBytesPinLaw" (some 0) with
  accessFlags := 49
  interfaces := #[]
  cf := some (fileOf pool1 18 #[] #[{ accessFlags := 1, nameIndex := 5, descriptorIndex := 6, attributes := #[] }, { accessFlags := 10, nameIndex := 21, descriptorIndex := 22, attributes := #[] }, { accessFlags := 10, nameIndex := 35, descriptorIndex := 36, attributes := #[] }, { accessFlags := 9, nameIndex := 44, descriptorIndex := 45, attributes := #[] }] 49 2 #[] #[])
  fields := #[]
  methods := #[k1m0, k1m1, k1m2, k1m3]
  instanceTypes := #[]
  staticTypes := #[]
  resolved := Array.replicate 50 none
  statics := none }

def pool2 : Array CpInfo := pool [(1, .methodref 2 3), (0, .class_ 4), (0, .nameAndType 5 6), (0, u "java/lang/Object"), (0, u "<init>"), (0, u "()V"), (0, .fieldref 8 9), (0, .class_ 10), (0, .nameAndType 11 12), (0, u "com/example/quayside/quayside/Row"), (0, u "bytes"), (0, u "[B"), (0, .fieldref 8 14), (0, .nameAndType 15 16), (0, u "starts"), (0, u "[I"), (0, .fieldref 8 18), (0, .nameAndType 19 16), (0, u "ends"), (0, .fieldref 8 21), (0, .nameAndType 22 23), (0, u "nullCount"), (0, u "I"), (0, .fieldref 8 25), (0, .nameAndType 26 27), (0, u "nulls"), (0, u "[Z"), (1, .class_ 31), (1, u "java/util/Arrays"), (2, .fieldref 8 35), (0, .nameAndType 36 23), (0, u "size"), (0, .fieldref 8 38), (0, .nameAndType 39 23), (0, u "reach"), (0, .fieldref 8 41), (0, .nameAndType 42 43), (0, u "text"), (0, u "Z"), (9, .methodref 29 54), (0, .nameAndType 55 56), (0, u "copyOf"), (0, u "([II)[I"), (0, .methodref 58 59), (0, .class_ 60), (0, .nameAndType 61 62), (0, u "java/lang/Math"), (0, u "max"), (0, u "(II)I"), (0, .methodref 8 64), (0, .nameAndType 65 66), (0, u "add"), (0, u "(II)V"), (0, .methodref 29 68), (0, .nameAndType 55 69), (0, u "([ZI)[Z"), (0, .string 71), (0, u "array"), (0, .methodref 73 74), (0, .class_ 75), (0, .nameAndType 76 77), (0, u "java/util/Objects"), (0, u "requireNonNull"), (0, u "(Ljava/lang/Object;Ljava/lang/String;)Ljava/lang/Object;"), (0, .class_ 12), (2, u "clear"), (1, u "addNull"), (1, u "setBytes"), (0, u "([B)V"), (0, u "beyondBytes"), (0, u "()I")] 26

def k2c0 : Code := { maxStack := 2, maxLocals := 1, code := prog_62_method_1_code, exceptionTable := #[], attributes := #[] }
def k2m0 : Method := { name := "<init>", desc := "()V", sig := { parameters := [], returnType := none }, accessFlags := 1, code := some k2c0 }
def k2c1 : Code := { maxStack := 2, maxLocals := 1, code := prog_62_method_2_code, exceptionTable := #[], attributes := #[] }
def k2m1 : Method := { name := "clear", desc := "()V", sig := { parameters := [], returnType := none }, accessFlags := 1, code := some k2c1 }
def k2c2 : Code := { maxStack := 4, maxLocals := 3, code := prog_62_method_3_code, exceptionTable := #[], attributes := #[] }
def k2m2 : Method := { name := "add", desc := "(II)V", sig := { parameters := [.int, .int], returnType := none }, accessFlags := 1, code := some k2c2 }
def k2c3 : Code := { maxStack := 3, maxLocals := 1, code := prog_62_method_4_code, exceptionTable := #[], attributes := #[] }
def k2m3 : Method := { name := "addNull", desc := "()V", sig := { parameters := [], returnType := none }, accessFlags := 1, code := some k2c3 }
def k2c4 : Code := { maxStack := 3, maxLocals := 2, code := prog_62_method_5_code, exceptionTable := #[], attributes := #[] }
def k2m4 : Method := { name := "setBytes", desc := "([B)V", sig := { parameters := [(.array .byte)], returnType := none }, accessFlags := 1, code := some k2c4 }
def k2c5 : Code := { maxStack := 2, maxLocals := 2, code := prog_62_method_6_code, exceptionTable := #[], attributes := #[] }
def k2m5 : Method := { name := "beyondBytes", desc := "()I", sig := { parameters := [], returnType := some .int }, accessFlags := 0, code := some k2c5 }
/-- com/example/quayside/quayside/Row -/
def k2 : Class := { plain "com/example/quayside/quayside/Row" (some 0) with
  accessFlags := 49
  interfaces := #[]
  cf := some (fileOf pool2 8 #[] #[{ accessFlags := 1, nameIndex := 5, descriptorIndex := 6, attributes := #[] }, { accessFlags := 1, nameIndex := 81, descriptorIndex := 6, attributes := #[] }, { accessFlags := 1, nameIndex := 65, descriptorIndex := 66, attributes := #[] }, { accessFlags := 1, nameIndex := 83, descriptorIndex := 6, attributes := #[] }, { accessFlags := 1, nameIndex := 85, descriptorIndex := 86, attributes := #[] }, { accessFlags := 0, nameIndex := 87, descriptorIndex := 88, attributes := #[] }] 49 2 #[] #[{ accessFlags := 2, nameIndex := 11, descriptorIndex := 12, attributes := #[] }, { accessFlags := 2, nameIndex := 15, descriptorIndex := 16, attributes := #[] }, { accessFlags := 2, nameIndex := 19, descriptorIndex := 16, attributes := #[] }, { accessFlags := 2, nameIndex := 36, descriptorIndex := 23, attributes := #[] }, { accessFlags := 2, nameIndex := 39, descriptorIndex := 23, attributes := #[] }, { accessFlags := 2, nameIndex := 26, descriptorIndex := 27, attributes := #[] }, { accessFlags := 2, nameIndex := 22, descriptorIndex := 23, attributes := #[] }, { accessFlags := 2, nameIndex := 42, descriptorIndex := 43, attributes := #[] }])
  fields := #[{ name := "bytes", type := (.array .byte), accessFlags := 2, slot := 0, constantValue := 0 }, { name := "starts", type := (.array .int), accessFlags := 2, slot := 1, constantValue := 0 }, { name := "ends", type := (.array .int), accessFlags := 2, slot := 2, constantValue := 0 }, { name := "size", type := .int, accessFlags := 2, slot := 3, constantValue := 0 }, { name := "reach", type := .int, accessFlags := 2, slot := 4, constantValue := 0 }, { name := "nulls", type := (.array .boolean), accessFlags := 2, slot := 5, constantValue := 0 }, { name := "nullCount", type := .int, accessFlags := 2, slot := 6, constantValue := 0 }, { name := "text", type := .boolean, accessFlags := 2, slot := 7, constantValue := 0 }]
  methods := #[k2m0, k2m1, k2m2, k2m3, k2m4, k2m5]
  instanceTypes := #[(.array .byte), (.array .int), (.array .int), .int, .int, (.array .boolean), .int, .boolean]
  staticTypes := #[]
  resolved := Array.replicate 115 none
  statics := none }

def pool3 : Array CpInfo := pool [(1, .class_ 2), (0, u "java/io/Serializable"), (0, .class_ 4), (0, u "java/lang/Object")] 2

/-- java/io/Serializable -/
def k3 : Class := { plain "java/io/Serializable" (some 0) with
  accessFlags := 1537
  interfaces := #[]
  cf := some (fileOf pool3 1 #[] #[] 1537 3 #[] #[])
  fields := #[]
  methods := #[]
  instanceTypes := #[]
  staticTypes := #[]
  resolved := Array.replicate 7 none
  statics := none }

def pool4 : Array CpInfo := pool [(1, .class_ 2), (0, u "java/lang/Comparable"), (0, .class_ 4), (0, u "java/lang/Object")] 7

/-- java/lang/Comparable -/
def k4 : Class := { plain "java/lang/Comparable" (some 0) with
  accessFlags := 1537
  interfaces := #[]
  cf := some (fileOf pool4 1 #[] #[] 1537 3 #[] #[])
  fields := #[]
  methods := #[]
  instanceTypes := #[]
  staticTypes := #[]
  resolved := Array.replicate 12 none
  statics := none }

def pool5 : Array CpInfo := pool [(2, .class_ 4), (1, u "java/lang/CharSequence"), (42, .class_ 48), (0, u "java/lang/CharSequence$1CodePointIterator"), (10, .class_ 60), (0, u "java/lang/CharSequence$1CharIterator"), (5, .class_ 67), (0, u "java/lang/Object")] 63

/-- java/lang/CharSequence -/
def k5 : Class := { plain "java/lang/CharSequence" (some 0) with
  accessFlags := 1537
  interfaces := #[]
  cf := some (fileOf pool5 2 #[.nestMembers #[47, 59]] #[] 1537 66 #[] #[])
  fields := #[]
  methods := #[]
  instanceTypes := #[]
  staticTypes := #[]
  resolved := Array.replicate 131 none
  statics := none }

def pool6 : Array CpInfo := pool [(1, .class_ 2), (0, u "java/lang/constant/Constable"), (0, .class_ 4), (0, u "java/lang/Object")] 6

/-- java/lang/constant/Constable -/
def k6 : Class := { plain "java/lang/constant/Constable" (some 0) with
  accessFlags := 1537
  interfaces := #[]
  cf := some (fileOf pool6 1 #[] #[] 1537 3 #[] #[])
  fields := #[]
  methods := #[]
  instanceTypes := #[]
  staticTypes := #[]
  resolved := Array.replicate 11 none
  statics := none }

def pool7 : Array CpInfo := pool [(1, .class_ 2), (0, u "java/lang/constant/ConstantDesc"), (0, .class_ 4), (0, u "java/lang/Object")] 32

/-- java/lang/constant/ConstantDesc -/
def k7 : Class := { plain "java/lang/constant/ConstantDesc" (some 0) with
  accessFlags := 1537
  interfaces := #[]
  cf := some (fileOf pool7 1 #[] #[] 1537 3 #[] #[])
  fields := #[]
  methods := #[]
  instanceTypes := #[]
  staticTypes := #[]
  resolved := Array.replicate 37 none
  statics := none }

def pool8 : Array CpInfo := pool [(2, .class_ 4), (1, u "java/lang/Object"), (0, u "<init>"), (0, u "()V"), (3, .class_ 12), (1, u "java/lang/String"), (0, u "value"), (0, u "[B"), (2, u "coder"), (0, u "B"), (2, u "hash"), (0, u "I"), (2, u "hashIsZero"), (0, u "Z"), (13, u "COMPACT_STRINGS"), (534, .class_ 576), (0, u "java/lang/CharSequence"), (22, u "CASE_INSENSITIVE_ORDER"), (0, u "Ljava/util/Comparator;"), (500, u "serialPersistentFields"), (0, u "[Ljava/io/ObjectStreamField;"), (0, .class_ 1104), (0, u "java/lang/String$CaseInsensitiveComparator"), (1, .class_ 1107), (0, u "java/io/Serializable"), (0, .class_ 1109), (0, u "java/lang/Comparable"), (0, .class_ 1111), (0, u "java/lang/constant/Constable"), (0, .class_ 1113), (0, u "java/lang/constant/ConstantDesc"), (2, u "serialVersionUID"), (0, u "J"), (3, u "REPL"), (0, u "C"), (2, u "LATIN1"), (1, u "UTF16")] 323

def k8m0 : Method := { name := "<init>", desc := "()V", sig := { parameters := [], returnType := none }, accessFlags := 1, code := none }
/-- java/lang/String -/
def k8 : Class := { plain "java/lang/String" (some 0) with
  accessFlags := 49
  interfaces := #[3, 4, 5, 6, 7]
  cf := some (fileOf pool8 10 #[.nestMembers #[1103]] #[{ accessFlags := 1, nameIndex := 5, descriptorIndex := 6, attributes := #[] }] 49 2 #[1106, 1108, 575, 1110, 1112] #[{ accessFlags := 18, nameIndex := 13, descriptorIndex := 14, attributes := #[] }, { accessFlags := 18, nameIndex := 17, descriptorIndex := 18, attributes := #[] }, { accessFlags := 2, nameIndex := 21, descriptorIndex := 22, attributes := #[] }, { accessFlags := 2, nameIndex := 25, descriptorIndex := 26, attributes := #[] }, { accessFlags := 26, nameIndex := 1116, descriptorIndex := 1117, attributes := #[] }, { accessFlags := 24, nameIndex := 40, descriptorIndex := 26, attributes := #[] }, { accessFlags := 26, nameIndex := 1101, descriptorIndex := 1102, attributes := #[] }, { accessFlags := 26, nameIndex := 1121, descriptorIndex := 1122, attributes := #[] }, { accessFlags := 25, nameIndex := 599, descriptorIndex := 600, attributes := #[] }, { accessFlags := 24, nameIndex := 1125, descriptorIndex := 18, attributes := #[] }, { accessFlags := 24, nameIndex := 1127, descriptorIndex := 18, attributes := #[] }])
  fields := #[{ name := "value", type := (.array .byte), accessFlags := 18, slot := 0, constantValue := 0 }, { name := "coder", type := .byte, accessFlags := 18, slot := 1, constantValue := 0 }, { name := "hash", type := .int, accessFlags := 2, slot := 2, constantValue := 0 }, { name := "hashIsZero", type := .boolean, accessFlags := 2, slot := 3, constantValue := 0 }, { name := "serialVersionUID", type := .long, accessFlags := 26, slot := 0, constantValue := 0 }, { name := "COMPACT_STRINGS", type := .boolean, accessFlags := 24, slot := 1, constantValue := 0 }, { name := "serialPersistentFields", type := (.array (.object "java/io/ObjectStreamField")), accessFlags := 26, slot := 2, constantValue := 0 }, { name := "REPL", type := .char, accessFlags := 26, slot := 3, constantValue := 0 }, { name := "CASE_INSENSITIVE_ORDER", type := (.object "java/util/Comparator"), accessFlags := 25, slot := 4, constantValue := 0 }, { name := "LATIN1", type := .byte, accessFlags := 24, slot := 5, constantValue := 0 }, { name := "UTF16", type := .byte, accessFlags := 24, slot := 6, constantValue := 0 }]
  methods := #[k8m0]
  instanceTypes := #[(.array .byte), .byte, .int, .boolean]
  staticTypes := #[.long, .boolean, (.array (.object "java/io/ObjectStreamField")), .char, (.object "java/util/Comparator"), .byte, .byte]
  resolved := Array.replicate 1451 none
  statics := none }

def pool9 : Array CpInfo := pool [(2, .class_ 4), (1, u "java/lang/Object"), (0, u "<init>"), (0, u "()V"), (35, .class_ 44), (1, u "java/util/Objects"), (0, u "requireNonNull"), (48, u "(Ljava/lang/Object;Ljava/lang/String;)Ljava/lang/Object;")] 89

def k9m0 : Method := { name := "<init>", desc := "()V", sig := { parameters := [], returnType := none }, accessFlags := 2, code := none }
def k9c1 : Code := { maxStack := 3, maxLocals := 2, code := jdk_31_method_11_code, exceptionTable := #[], attributes := #[] }
def k9m1 : Method := { name := "requireNonNull", desc := "(Ljava/lang/Object;Ljava/lang/String;)Ljava/lang/Object;", sig := { parameters := [(.object "java/lang/Object"), (.object "java/lang/String")], returnType := some (.object "java/lang/Object") }, accessFlags := 9, code := some k9c1 }
/-- java/util/Objects -/
def k9 : Class := { plain "java/util/Objects" (some 0) with
  accessFlags := 49
  interfaces := #[]
  cf := some (fileOf pool9 42 #[] #[{ accessFlags := 2, nameIndex := 5, descriptorIndex := 6, attributes := #[] }, { accessFlags := 9, nameIndex := 45, descriptorIndex := 94, attributes := #[] }] 49 2 #[] #[])
  fields := #[]
  methods := #[k9m0, k9m1]
  instanceTypes := #[]
  staticTypes := #[]
  resolved := Array.replicate 184 none
  statics := none }

def pool10 : Array CpInfo := pool [(1, .class_ 2), (0, u "java/lang/Math"), (1, .class_ 6), (1, u "java/lang/Object"), (0, u "<init>"), (0, u "()V"), (89, .class_ 100), (1, u "java/lang/Math$RandomNumberGeneratorHolder"), (71, u "negativeZeroFloatBits"), (0, u "J"), (2, u "negativeZeroDoubleBits"), (21, u "max"), (2, u "min"), (43, u "$assertionsDisabled"), (0, u "Z"), (88, u "(II)I"), (2, u "twoToTheDoubleScaleDown"), (0, u "D"), (4, u "twoToTheDoubleScaleUp"), (9, u "E"), (3, u "PI"), (2, u "TAU"), (2, u "DEGREES_TO_RADIANS"), (0, u "RADIANS_TO_DEGREES")] 94

def k10m0 : Method := { name := "<init>", desc := "()V", sig := { parameters := [], returnType := none }, accessFlags := 2, code := none }
def k10c1 : Code := { maxStack := 2, maxLocals := 2, code := jdk_29_method_65_code, exceptionTable := #[], attributes := #[] }
def k10m1 : Method := { name := "max", desc := "(II)I", sig := { parameters := [.int, .int], returnType := some .int }, accessFlags := 9, code := some k10c1 }
def k10c2 : Code := { maxStack := 2, maxLocals := 2, code := jdk_29_method_69_code, exceptionTable := #[], attributes := #[] }
def k10m2 : Method := { name := "min", desc := "(II)I", sig := { parameters := [.int, .int], returnType := some .int }, accessFlags := 9, code := some k10c2 }
/-- java/lang/Math -/
def k10 : Class := { plain "java/lang/Math" (some 0) with
  accessFlags := 49
  interfaces := #[]
  cf := some (fileOf pool10 1 #[.nestMembers #[98]] #[{ accessFlags := 2, nameIndex := 7, descriptorIndex := 8, attributes := #[] }, { accessFlags := 9, nameIndex := 198, descriptorIndex := 335, attributes := #[] }, { accessFlags := 9, nameIndex := 201, descriptorIndex := 335, attributes := #[] }] 49 4 #[] #[{ accessFlags := 25, nameIndex := 354, descriptorIndex := 339, attributes := #[] }, { accessFlags := 25, nameIndex := 358, descriptorIndex := 339, attributes := #[] }, { accessFlags := 25, nameIndex := 361, descriptorIndex := 339, attributes := #[] }, { accessFlags := 26, nameIndex := 364, descriptorIndex := 339, attributes := #[] }, { accessFlags := 26, nameIndex := 365, descriptorIndex := 339, attributes := #[] }, { accessFlags := 26, nameIndex := 172, descriptorIndex := 173, attributes := #[] }, { accessFlags := 26, nameIndex := 176, descriptorIndex := 173, attributes := #[] }, { accessFlags := 8, nameIndex := 344, descriptorIndex := 339, attributes := #[] }, { accessFlags := 8, nameIndex := 338, descriptorIndex := 339, attributes := #[] }, { accessFlags := 4120, nameIndex := 245, descriptorIndex := 246, attributes := #[] }])
  fields := #[{ name := "E", type := .double, accessFlags := 25, slot := 0, constantValue := 0 }, { name := "PI", type := .double, accessFlags := 25, slot := 1, constantValue := 0 }, { name := "TAU", type := .double, accessFlags := 25, slot := 2, constantValue := 0 }, { name := "DEGREES_TO_RADIANS", type := .double, accessFlags := 26, slot := 3, constantValue := 0 }, { name := "RADIANS_TO_DEGREES", type := .double, accessFlags := 26, slot := 4, constantValue := 0 }, { name := "negativeZeroFloatBits", type := .long, accessFlags := 26, slot := 5, constantValue := 0 }, { name := "negativeZeroDoubleBits", type := .long, accessFlags := 26, slot := 6, constantValue := 0 }, { name := "twoToTheDoubleScaleUp", type := .double, accessFlags := 8, slot := 7, constantValue := 0 }, { name := "twoToTheDoubleScaleDown", type := .double, accessFlags := 8, slot := 8, constantValue := 0 }, { name := "$assertionsDisabled", type := .boolean, accessFlags := 4120, slot := 9, constantValue := 0 }]
  methods := #[k10m0, k10m1, k10m2]
  instanceTypes := #[]
  staticTypes := #[.double, .double, .double, .double, .double, .long, .long, .double, .double, .boolean]
  resolved := Array.replicate 460 none
  statics := none }

def pool11 : Array CpInfo := pool [(2, .class_ 4), (1, u "java/lang/Object"), (0, u "<init>"), (0, u "()V"), (7, .class_ 16), (1, u "java/util/Arrays"), (57, .class_ 76), (1, u "java/util/Arrays$NaturalOrder"), (36, .class_ 115), (1, u "java/util/Arrays$LegacyMergeSort"), (1, u "Z"), (32, .methodref 151 152), (0, .class_ 153), (0, .nameAndType 154 155), (0, u "java/lang/System"), (0, u "arraycopy"), (0, u "(Ljava/lang/Object;ILjava/lang/Object;II)V"), (146, u "copyOf"), (1, .methodref 305 306), (0, .class_ 307), (0, .nameAndType 308 309), (0, u "java/lang/Math"), (0, u "min"), (0, u "(II)I"), (65, .class_ 376), (0, u "java/util/Arrays$ArrayList"), (68, u "$assertionsDisabled"), (269, u "MIN_ARRAY_SORT_GRAN"), (0, u "I"), (2, u "INSERTIONSORT_THRESHOLD"), (151, u "([II)[I"), (4, u "([ZI)[Z"), (98, .class_ 976), (0, u "java/util/Arrays$ArrayItr")] 52

def k11m0 : Method := { name := "<init>", desc := "()V", sig := { parameters := [], returnType := none }, accessFlags := 2, code := none }
def k11c1 : Code := { maxStack := 6, maxLocals := 3, code := jdk_65_method_123_code, exceptionTable := #[], attributes := #[] }
def k11m1 : Method := { name := "copyOf", desc := "([II)[I", sig := { parameters := [(.array .int), .int], returnType := some (.array .int) }, accessFlags := 9, code := some k11c1 }
def k11c2 : Code := { maxStack := 6, maxLocals := 3, code := jdk_65_method_128_code, exceptionTable := #[], attributes := #[] }
def k11m2 : Method := { name := "copyOf", desc := "([ZI)[Z", sig := { parameters := [(.array .boolean), .int], returnType := some (.array .boolean) }, accessFlags := 9, code := some k11c2 }
/-- java/util/Arrays -/
def k11 : Class := { plain "java/util/Arrays" (some 0) with
  accessFlags := 49
  interfaces := #[]
  cf := some (fileOf pool11 14 #[.nestMembers #[975, 375, 113, 74]] #[{ accessFlags := 2, nameIndex := 5, descriptorIndex := 6, attributes := #[] }, { accessFlags := 9, nameIndex := 302, descriptorIndex := 871, attributes := #[] }, { accessFlags := 9, nameIndex := 302, descriptorIndex := 876, attributes := #[] }] 49 2 #[] #[{ accessFlags := 26, nameIndex := 715, descriptorIndex := 716, attributes := #[] }, { accessFlags := 26, nameIndex := 719, descriptorIndex := 716, attributes := #[] }, { accessFlags := 4120, nameIndex := 445, descriptorIndex := 117, attributes := #[] }])
  fields := #[{ name := "MIN_ARRAY_SORT_GRAN", type := .int, accessFlags := 26, slot := 0, constantValue := 0 }, { name := "INSERTIONSORT_THRESHOLD", type := .int, accessFlags := 26, slot := 1, constantValue := 0 }, { name := "$assertionsDisabled", type := .boolean, accessFlags := 4120, slot := 2, constantValue := 0 }]
  methods := #[k11m0, k11m1, k11m2]
  instanceTypes := #[]
  staticTypes := #[.int, .int, .boolean]
  resolved := Array.replicate 1029 none
  statics := none }

def pool12 : Array CpInfo := pool [(2, .class_ 4), (1, u "java/lang/Object"), (0, u "<init>"), (0, u "()V"), (1, .class_ 10), (1, u "java/lang/System"), (0, u "allowSecurityManager"), (0, u "I"), (16, u "cons"), (0, u "Ljava/io/Console;"), (77, .class_ 110), (1, u "java/lang/System$CallersHolder"), (43, u "initialErrStream"), (0, u "Ljava/io/PrintStream;"), (19, u "security"), (0, u "Ljava/lang/SecurityManager;"), (31, .class_ 209), (0, u "java/lang/System$1"), (7, u "props"), (0, u "Ljava/util/Properties;"), (2, u "lineSeparator"), (0, u "Ljava/lang/String;"), (96, .class_ 321), (1, u "java/lang/System$LoggerFinder"), (5, .class_ 328), (0, u "java/lang/System$Logger"), (67, u "err"), (2, u "out"), (91, u "notSupportedJnuEncoding"), (15, u "in"), (17, u "initialIn"), (0, u "Ljava/io/InputStream;"), (35, u "bootLayer"), (0, u "Ljava/lang/ModuleLayer;"), (99, .class_ 664), (0, u "java/lang/System$2"), (9, u "NEVER"), (2, u "MAYBE"), (49, u "arraycopy"), (0, u "(Ljava/lang/Object;ILjava/lang/Object;II)V"), (72, .class_ 802), (0, u "java/lang/System$Logger$Level")] 31

def k12m0 : Method := { name := "<init>", desc := "()V", sig := { parameters := [], returnType := none }, accessFlags := 2, code := none }
def k12m1 : Method := { name := "arraycopy", desc := "(Ljava/lang/Object;ILjava/lang/Object;II)V", sig := { parameters := [(.object "java/lang/Object"), .int, (.object "java/lang/Object"), .int, .int], returnType := none }, accessFlags := 265, code := none }
/-- java/lang/System -/
def k12 : Class := { plain "java/lang/System" (some 0) with
  accessFlags := 49
  interfaces := #[]
  cf := some (fileOf pool12 8 #[.nestMembers #[319, 327, 801, 108, 663, 208]] #[{ accessFlags := 2, nameIndex := 5, descriptorIndex := 6, attributes := #[] }, { accessFlags := 265, nameIndex := 727, descriptorIndex := 728, attributes := #[] }] 49 2 #[] #[{ accessFlags := 25, nameIndex := 507, descriptorIndex := 526, attributes := #[] }, { accessFlags := 25, nameIndex := 399, descriptorIndex := 155, attributes := #[] }, { accessFlags := 25, nameIndex := 396, descriptorIndex := 155, attributes := #[] }, { accessFlags := 10, nameIndex := 525, descriptorIndex := 526, attributes := #[] }, { accessFlags := 26, nameIndex := 674, descriptorIndex := 12, attributes := #[] }, { accessFlags := 26, nameIndex := 677, descriptorIndex := 12, attributes := #[] }, { accessFlags := 10, nameIndex := 11, descriptorIndex := 12, attributes := #[] }, { accessFlags := 74, nameIndex := 175, descriptorIndex := 176, attributes := #[] }, { accessFlags := 10, nameIndex := 491, descriptorIndex := 222, attributes := #[] }, { accessFlags := 74, nameIndex := 29, descriptorIndex := 30, attributes := #[] }, { accessFlags := 74, nameIndex := 154, descriptorIndex := 155, attributes := #[] }, { accessFlags := 10, nameIndex := 217, descriptorIndex := 218, attributes := #[] }, { accessFlags := 10, nameIndex := 221, descriptorIndex := 222, attributes := #[] }, { accessFlags := 8, nameIndex := 562, descriptorIndex := 563, attributes := #[] }])
  fields := #[{ name := "in", type := (.object "java/io/InputStream"), accessFlags := 25, slot := 0, constantValue := 0 }, { name := "out", type := (.object "java/io/PrintStream"), accessFlags := 25, slot := 1, constantValue := 0 }, { name := "err", type := (.object "java/io/PrintStream"), accessFlags := 25, slot := 2, constantValue := 0 }, { name := "initialIn", type := (.object "java/io/InputStream"), accessFlags := 10, slot := 3, constantValue := 0 }, { name := "NEVER", type := .int, accessFlags := 26, slot := 4, constantValue := 0 }, { name := "MAYBE", type := .int, accessFlags := 26, slot := 5, constantValue := 0 }, { name := "allowSecurityManager", type := .int, accessFlags := 10, slot := 6, constantValue := 0 }, { name := "security", type := (.object "java/lang/SecurityManager"), accessFlags := 74, slot := 7, constantValue := 0 }, { name := "notSupportedJnuEncoding", type := (.object "java/lang/String"), accessFlags := 10, slot := 8, constantValue := 0 }, { name := "cons", type := (.object "java/io/Console"), accessFlags := 74, slot := 9, constantValue := 0 }, { name := "initialErrStream", type := (.object "java/io/PrintStream"), accessFlags := 74, slot := 10, constantValue := 0 }, { name := "props", type := (.object "java/util/Properties"), accessFlags := 10, slot := 11, constantValue := 0 }, { name := "lineSeparator", type := (.object "java/lang/String"), accessFlags := 10, slot := 12, constantValue := 0 }, { name := "bootLayer", type := (.object "java/lang/ModuleLayer"), accessFlags := 8, slot := 13, constantValue := 0 }]
  methods := #[k12m0, k12m1]
  instanceTypes := #[]
  staticTypes := #[(.object "java/io/InputStream"), (.object "java/io/PrintStream"), (.object "java/io/PrintStream"), (.object "java/io/InputStream"), .int, .int, .int, (.object "java/lang/SecurityManager"), (.object "java/lang/String"), (.object "java/io/Console"), (.object "java/io/PrintStream"), (.object "java/util/Properties"), (.object "java/lang/String"), (.object "java/lang/ModuleLayer")]
  resolved := Array.replicate 834 none
  statics := none }

def pool13 : Array CpInfo := pool [(1, u "java/lang/Cloneable"), (0, .class_ 1), (0, u "java/lang/Object"), (0, .class_ 3)] 3

/-- java/lang/Cloneable -/
def k13 : Class := { plain "java/lang/Cloneable" (some 0) with
  accessFlags := 1537
  interfaces := #[]
  cf := some (fileOf pool13 2 #[] #[] 1537 4 #[] #[])
  fields := #[]
  methods := #[]
  instanceTypes := #[]
  staticTypes := #[]
  resolved := Array.replicate 8 none
  statics := none }

/-- the primitive boolean -/
def k14 : Class := { plain "boolean" none with kind := .primitive 'Z', accessFlags := 0x411 }
/-- [Z -/
def k15 : Class := { plain "[Z" (some 0) with kind := .array 14 .boolean, interfaces := #[13, 3], accessFlags := 1041 }

/-- the primitive byte -/
def k16 : Class := { plain "byte" none with kind := .primitive 'B', accessFlags := 0x411 }
/-- [B -/
def k17 : Class := { plain "[B" (some 0) with kind := .array 16 .byte, interfaces := #[13, 3], accessFlags := 1041 }

/-- the primitive int -/
def k18 : Class := { plain "int" none with kind := .primitive 'I', accessFlags := 0x411 }
/-- [I -/
def k19 : Class := { plain "[I" (some 0) with kind := .array 18 .int, interfaces := #[13, 3], accessFlags := 1041 }

def heap : Heap := #[]
def classes : Array Class := #[k0, k1, k2, k3, k4, k5, k6, k7, k8, k9, k10, k11, k12, k13, k14, k15, k16, k17, k18, k19]
def interned : List (Array UInt16 × Addr) := []
def slotsUsed : Nat := 0
def theMethod : MethodId := ⟨1, 3⟩
def args0 : Array Value := #[.int 13, .int 5, .int 77, .int 2, .int 3, .int 4]
def aboutOver (below : List Frame) : State where
  vm := { classes := classes, interned := interned.toArray }
  heap := heap
  slotsUsed := slotsUsed
  threads := #[{ frames := .invoking theMethod args0 :: below }]
def below0 : List Frame := [.native { method := ⟨0, 0⟩, args := #[] }]
def about1 : State := aboutOver below0
def p0 : Program := .bare "" "" ""
def e0 : Env := launch0.env 0 0 0
theorem w_frames : about1.frames = Frame.invoking theMethod args0 :: below0 := rfl
set_option maxRecDepth 65536 in
theorem w_args : argsFit about1.vm theMethod args0 = true := by decide +kernel
set_option maxRecDepth 65536 in
theorem w_heap : heapFits about1 = true := by decide +kernel
set_option maxRecDepth 65536 in
theorem w_runnable : about1.curStatus? = some .runnable := by decide +kernel
set_option maxRecDepth 65536 in
theorem w_alone : about1.alone = true := by decide +kernel
set_option maxRecDepth 65536 in
theorem w_named : about1.methodNamed? x = some theMethod := by decide +kernel
set_option maxRecDepth 65536 in
theorem w_hears : about1.hears theMethod below0 = true := by decide +kernel
set_option maxRecDepth 65536 in
theorem w_ripe : about1.ripe theMethod args0 below0 = true := by decide +kernel
theorem w_running : about1.status = .running := rfl
set_option maxRecDepth 65536 in
theorem w_room : about1.hasRoom e0.platform room_1 = true :=
  launch0.hasRoom_least _ room_1 (by decide +kernel) (by decide +kernel) (by decide +kernel) (by decide +kernel) (by decide +kernel) (by decide +kernel)
theorem allAtoms_all (ts : List Jvm.Cond) (a : Array Jvm.Value) (st : Jvm.State) : (allAtoms ts).before a st = ts.all (fun c => c.before a st) := by
  induction ts with
  | nil => rfl
  | cons c t ih =>
    show (Jvm.Cond.and c (allAtoms t)).before a st = _
    rw [Jvm.Cond.before_and, ih, List.all_cons]
def words1 : List Jvm.Cond := Jvm.Cond.code x code maxLocals ret :: tables_1
/-- a 'code' word, met by the world's own term for the bytes: nothing is compared byte by byte -/
theorem code_word {y : MethodName} {bytes : ByteArray} {mx : Nat} {rt : Option FieldType} {a : Array Value} {s : State} {m : MethodId} {meth : Method} {c : Code} (h1 : s.methodNamed? y = some m) (h2 : s.vm.method? m = some meth) (h3 : meth.code = some c) (h4 : c.code = bytes)
    (h5 : (c.maxLocals == mx && c.exceptionTable.isEmpty && decide (c.maxStack ≤ mostOperands) && decide (meth.sig.returnType = rt) && !meth.locks && decide (parseMethodDescriptor y.desc = some meth.sig)) = true) : (Jvm.Cond.code y bytes mx rt).before a s = true := by
  simp only [Bool.and_eq_true, beq_iff_eq, Bool.not_eq_true', decide_eq_true_eq] at h5
  obtain ⟨⟨⟨⟨⟨g1, g2⟩, g3⟩, g4⟩, g5⟩, g6⟩ := h5
  simp [Cond.before, Cond.holds, Cond.value, h1, h2, h3, h4, g1, g2, g3, g4, g5, g6]
def isCode : Jvm.Cond → Bool
  | .code _ _ _ _ => true
  | _ => false
theorem all_split {L : List Jvm.Cond} {P : Jvm.Cond → Bool} (h1 : L.all (fun c => isCode c || P c) = true) (h2 : ∀ c ∈ L.filter isCode, P c = true) : L.all P = true := by
  refine List.all_eq_true.mpr fun c hc => ?_
  have h := List.all_eq_true.mp h1 c hc
  rcases Bool.eq_false_or_eq_true (isCode c) with hi | hi
  · exact h2 c (List.mem_filter.mpr ⟨hc, hi⟩)
  · simpa [hi] using h
set_option maxRecDepth 65536 in
theorem w_c0 : (Jvm.Cond.code x code maxLocals ret).before args0 about1 = true := code_word (m := ⟨1, 3⟩) (meth := k1m3) (c := k1c3) (by decide +kernel) rfl rfl rfl (by decide +kernel)
set_option maxRecDepth 65536 in
theorem w_c1 : (Jvm.Cond.code ({ cls := "com/example/quayside/quayside/RowBeyondBytesPinLaw", name := "end", desc := "(I)I" } : Jvm.MethodName) method_2_code (1 : Nat) (Option.some Jvm.ClassFile.FieldType.int)).before args0 about1 = true := code_word (m := ⟨1, 1⟩) (meth := k1m1) (c := k1c1) (by decide +kernel) rfl rfl rfl (by decide +kernel)
set_option maxRecDepth 65536 in
theorem w_c2 : (Jvm.Cond.code ({ cls := "com/example/quayside/quayside/Row", name := "<init>", desc := "()V" } : Jvm.MethodName) prog_62_method_1_code (1 : Nat) (Option.none : Option Jvm.ClassFile.FieldType)).before args0 about1 = true := code_word (m := ⟨2, 0⟩) (meth := k2m0) (c := k2c0) (by decide +kernel) rfl rfl rfl (by decide +kernel)
set_option maxRecDepth 65536 in
theorem w_c3 : (Jvm.Cond.code ({ cls := "java/lang/Object", name := "<init>", desc := "()V" } : Jvm.MethodName) object_method_1_code (1 : Nat) (Option.none : Option Jvm.ClassFile.FieldType)).before args0 about1 = true := code_word (m := ⟨0, 0⟩) (meth := k0m0) (c := k0c0) (by decide +kernel) rfl rfl rfl (by decide +kernel)
set_option maxRecDepth 65536 in
theorem w_c4 : (Jvm.Cond.code ({ cls := "com/example/quayside/quayside/Row", name := "setBytes", desc := "([B)V" } : Jvm.MethodName) prog_62_method_5_code (2 : Nat) (Option.none : Option Jvm.ClassFile.FieldType)).before args0 about1 = true := code_word (m := ⟨2, 4⟩) (meth := k2m4) (c := k2c4) (by decide +kernel) rfl rfl rfl (by decide +kernel)
set_option maxRecDepth 65536 in
theorem w_c5 : (Jvm.Cond.code ({ cls := "java/util/Objects", name := "requireNonNull", desc := "(Ljava/lang/Object;Ljava/lang/String;)Ljava/lang/Object;" } : Jvm.MethodName) jdk_31_method_11_code (2 : Nat) (Option.some (Jvm.ClassFile.FieldType.object "java/lang/Object"))).before args0 about1 = true := code_word (m := ⟨9, 1⟩) (meth := k9m1) (c := k9c1) (by decide +kernel) rfl rfl rfl (by decide +kernel)
set_option maxRecDepth 65536 in
theorem w_c6 : (Jvm.Cond.code ({ cls := "com/example/quayside/quayside/RowBeyondBytesPinLaw", name := "put", desc := "(Lcom/example/quayside/quayside/Row;IIZI)V" } : Jvm.MethodName) method_3_code (5 : Nat) (Option.none : Option Jvm.ClassFile.FieldType)).before args0 about1 = true := code_word (m := ⟨1, 2⟩) (meth := k1m2) (c := k1c2) (by decide +kernel) rfl rfl rfl (by decide +kernel)
set_option maxRecDepth 65536 in
theorem w_c7 : (Jvm.Cond.code ({ cls := "com/example/quayside/quayside/Row", name := "beyondBytes", desc := "()I" } : Jvm.MethodName) prog_62_method_6_code (2 : Nat) (Option.some Jvm.ClassFile.FieldType.int)).before args0 about1 = true := code_word (m := ⟨2, 5⟩) (meth := k2m5) (c := k2c5) (by decide +kernel) rfl rfl rfl (by decide +kernel)
set_option maxRecDepth 65536 in
theorem w_c8 : (Jvm.Cond.code ({ cls := "com/example/quayside/quayside/Row", name := "add", desc := "(II)V" } : Jvm.MethodName) prog_62_method_3_code (3 : Nat) (Option.none : Option Jvm.ClassFile.FieldType)).before args0 about1 = true := code_word (m := ⟨2, 2⟩) (meth := k2m2) (c := k2c2) (by decide +kernel) rfl rfl rfl (by decide +kernel)
set_option maxRecDepth 65536 in
theorem w_c9 : (Jvm.Cond.code ({ cls := "java/lang/Math", name := "max", desc := "(II)I" } : Jvm.MethodName) jdk_29_method_65_code (2 : Nat) (Option.some Jvm.ClassFile.FieldType.int)).before args0 about1 = true := code_word (m := ⟨10, 1⟩) (meth := k10m1) (c := k10c1) (by decide +kernel) rfl rfl rfl (by decide +kernel)
set_option maxRecDepth 65536 in
theorem w_c10 : (Jvm.Cond.code ({ cls := "com/example/quayside/quayside/Row", name := "addNull", desc := "()V" } : Jvm.MethodName) prog_62_method_4_code (1 : Nat) (Option.none : Option Jvm.ClassFile.FieldType)).before args0 about1 = true := code_word (m := ⟨2, 3⟩) (meth := k2m3) (c := k2c3) (by decide +kernel) rfl rfl rfl (by decide +kernel)
set_option maxRecDepth 65536 in
theorem w_c11 : (Jvm.Cond.code ({ cls := "java/util/Arrays", name := "copyOf", desc := "([ZI)[Z" } : Jvm.MethodName) jdk_65_method_128_code (3 : Nat) (Option.some (Jvm.ClassFile.FieldType.array Jvm.ClassFile.FieldType.boolean))).before args0 about1 = true := code_word (m := ⟨11, 2⟩) (meth := k11m2) (c := k11c2) (by decide +kernel) rfl rfl rfl (by decide +kernel)
set_option maxRecDepth 65536 in
theorem w_c12 : (Jvm.Cond.code ({ cls := "java/lang/Math", name := "min", desc := "(II)I" } : Jvm.MethodName) jdk_29_method_69_code (2 : Nat) (Option.some Jvm.ClassFile.FieldType.int)).before args0 about1 = true := code_word (m := ⟨10, 2⟩) (meth := k10m2) (c := k10c2) (by decide +kernel) rfl rfl rfl (by decide +kernel)
set_option maxRecDepth 65536 in
theorem w_c13 : (Jvm.Cond.code ({ cls := "java/util/Arrays", name := "copyOf", desc := "([II)[I" } : Jvm.MethodName) jdk_65_method_123_code (3 : Nat) (Option.some (Jvm.ClassFile.FieldType.array Jvm.ClassFile.FieldType.int))).before args0 about1 = true := code_word (m := ⟨11, 1⟩) (meth := k11m1) (c := k11c1) (by decide +kernel) rfl rfl rfl (by decide +kernel)
set_option maxRecDepth 65536 in
theorem w_c14 : (Jvm.Cond.code ({ cls := "com/example/quayside/quayside/Row", name := "clear", desc := "()V" } : Jvm.MethodName) prog_62_method_2_code (1 : Nat) (Option.none : Option Jvm.ClassFile.FieldType)).before args0 about1 = true := code_word (m := ⟨2, 1⟩) (meth := k2m1) (c := k2c1) (by decide +kernel) rfl rfl rfl (by decide +kernel)
def codes1 : List Jvm.Cond := [Jvm.Cond.code x code maxLocals ret, Jvm.Cond.code ({ cls := "com/example/quayside/quayside/RowBeyondBytesPinLaw", name := "end", desc := "(I)I" } : Jvm.MethodName) method_2_code (1 : Nat) (Option.some Jvm.ClassFile.FieldType.int), Jvm.Cond.code ({ cls := "com/example/quayside/quayside/Row", name := "<init>", desc := "()V" } : Jvm.MethodName) prog_62_method_1_code (1 : Nat) (Option.none : Option Jvm.ClassFile.FieldType), Jvm.Cond.code ({ cls := "java/lang/Object", name := "<init>", desc := "()V" } : Jvm.MethodName) object_method_1_code (1 : Nat) (Option.none : Option Jvm.ClassFile.FieldType), Jvm.Cond.code ({ cls := "com/example/quayside/quayside/Row", name := "setBytes", desc := "([B)V" } : Jvm.MethodName) prog_62_method_5_code (2 : Nat) (Option.none : Option Jvm.ClassFile.FieldType), Jvm.Cond.code ({ cls := "java/util/Objects", name := "requireNonNull", desc := "(Ljava/lang/Object;Ljava/lang/String;)Ljava/lang/Object;" } : Jvm.MethodName) jdk_31_method_11_code (2 : Nat) (Option.some (Jvm.ClassFile.FieldType.object "java/lang/Object")), Jvm.Cond.code ({ cls := "com/example/quayside/quayside/RowBeyondBytesPinLaw", name := "put", desc := "(Lcom/example/quayside/quayside/Row;IIZI)V" } : Jvm.MethodName) method_3_code (5 : Nat) (Option.none : Option Jvm.ClassFile.FieldType), Jvm.Cond.code ({ cls := "com/example/quayside/quayside/Row", name := "beyondBytes", desc := "()I" } : Jvm.MethodName) prog_62_method_6_code (2 : Nat) (Option.some Jvm.ClassFile.FieldType.int), Jvm.Cond.code ({ cls := "com/example/quayside/quayside/Row", name := "add", desc := "(II)V" } : Jvm.MethodName) prog_62_method_3_code (3 : Nat) (Option.none : Option Jvm.ClassFile.FieldType), Jvm.Cond.code ({ cls := "java/lang/Math", name := "max", desc := "(II)I" } : Jvm.MethodName) jdk_29_method_65_code (2 : Nat) (Option.some Jvm.ClassFile.FieldType.int), Jvm.Cond.code ({ cls := "com/example/quayside/quayside/Row", name := "addNull", desc := "()V" } : Jvm.MethodName) prog_62_method_4_code (1 : Nat) (Option.none : Option Jvm.ClassFile.FieldType), Jvm.Cond.code ({ cls := "java/util/Arrays", name := "copyOf", desc := "([ZI)[Z" } : Jvm.MethodName) jdk_65_method_128_code (3 : Nat) (Option.some (Jvm.ClassFile.FieldType.array Jvm.ClassFile.FieldType.boolean)), Jvm.Cond.code ({ cls := "java/lang/Math", name := "min", desc := "(II)I" } : Jvm.MethodName) jdk_29_method_69_code (2 : Nat) (Option.some Jvm.ClassFile.FieldType.int), Jvm.Cond.code ({ cls := "java/util/Arrays", name := "copyOf", desc := "([II)[I" } : Jvm.MethodName) jdk_65_method_123_code (3 : Nat) (Option.some (Jvm.ClassFile.FieldType.array Jvm.ClassFile.FieldType.int)), Jvm.Cond.code ({ cls := "com/example/quayside/quayside/Row", name := "clear", desc := "()V" } : Jvm.MethodName) prog_62_method_2_code (1 : Nat) (Option.none : Option Jvm.ClassFile.FieldType)]
set_option maxRecDepth 65536 in
theorem codes_eq : words1.filter isCode = codes1 := rfl
theorem w_codes : ∀ c ∈ words1.filter isCode, c.before args0 about1 = true := by
  rw [codes_eq]
  intro c hc
  simp only [codes1, List.mem_cons, List.not_mem_nil, or_false] at hc
  rcases hc with rfl | rfl | rfl | rfl | rfl | rfl | rfl | rfl | rfl | rfl | rfl | rfl | rfl | rfl | rfl
  · exact w_c0
  · exact w_c1
  · exact w_c2
  · exact w_c3
  · exact w_c4
  · exact w_c5
  · exact w_c6
  · exact w_c7
  · exact w_c8
  · exact w_c9
  · exact w_c10
  · exact w_c11
  · exact w_c12
  · exact w_c13
  · exact w_c14
set_option maxRecDepth 65536 in
theorem w_t1 : (words1.take 24).all (fun c => isCode c || c.before args0 about1) = true := by decide +kernel
set_option maxRecDepth 65536 in
theorem w_t2 : ((words1.drop 24).take 24).all (fun c => isCode c || c.before args0 about1) = true := by decide +kernel
set_option maxRecDepth 65536 in
theorem w_t3 : (((words1.drop 24).drop 24).take 24).all (fun c => isCode c || c.before args0 about1) = true := by decide +kernel
set_option maxRecDepth 65536 in
theorem w_t4 : (((words1.drop 24).drop 24).drop 24).all (fun c => isCode c || c.before args0 about1) = true := by decide +kernel
theorem w_tables : (allAtoms (Jvm.Cond.code x code maxLocals ret :: tables_1)).before args0 about1 = true := by
  rw [allAtoms_all]
  show words1.all (fun c => c.before args0 about1) = true
  refine all_split ?_ w_codes
  rw [← List.take_append_drop 24 words1, List.all_append, w_t1, ← List.take_append_drop 24 (words1.drop 24), List.all_append, w_t2, ← List.take_append_drop 24 ((words1.drop 24).drop 24), List.all_append, w_t3, w_t4]
  rfl
set_option maxRecDepth 65536 in
theorem w_case : (Jvm.Cond.and given_1 narrow_1).before args0 about1 = true := by decide +kernel
theorem w_applies : (headSpec (Jvm.Cond.code x code maxLocals ret :: tables_1) room_1).applies x e0.platform about1 = true :=
  (Spec.applies_iff w_frames).mpr ⟨w_running, w_runnable, w_alone, w_named, w_hears, w_ripe, w_room, w_tables⟩
theorem atStart : AtStart classFile x code maxLocals ret World_1 tables_1 room_1 Calls_1 rest_1 Pre_1 launch0 p0 e0 about1 theMethod args0 below0 :=
  ⟨lists_1, trivial, launch0.admits_env _ _ _, launch0.least_env, fairChoices_fair.cas, fairChoices_fair.clock, w_frames, w_args, w_heap, w_applies, trivial, trivial, w_case⟩
end start1
theorem witness_1 : WitnessClaimed_1 := ⟨start1.p0, start1.e0, start1.about1, start1.theMethod, start1.args0, start1.below0, start1.atStart⟩
end Jvm.Pilot.@@N@@
