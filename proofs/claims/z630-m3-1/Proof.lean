import JvmDerived
import JvmDerived.Pilot.@@N@@Statement
import JvmDerived.Pilot.@@N@@Code
set_option linter.unusedVariables false
set_option linter.unusedSimpArgs false
namespace Jvm.Pilot.@@N@@
open Jvm Jvm.ClassFile Sem Op Lib Jvm.Free Jvm.Stand Jvm.LawKit Jvm.RoadKit Bundle Jvm.Pilot.@@N@@.Jvm.D
section Own
variable {p : Program} {l : Launch} {e : Env} {R : Room} {s : State} {m : MethodId} {args : Array Value} {below : List Frame} {meth : Method} {c : Code} {T : State} {locs : List Loc} {cells slots : Nat} {Z : State} {a0 : Array Value} {h h' : Heap}
theorem own_hb {c : ClassFile.Code} {code : ByteArray} (h : c.code = code) {pc : Nat} {r : Except ClassFile.DecodeError (ClassFile.Instr × Nat)} (h2 : ClassFile.decode code pc = r) : ClassFile.decode c.code pc = r := h ▸ h2
/-- from S the run comes to an end of the method of which QQ holds -/
def own_Go (p : Program) (e : Env) (below : List Frame) (S : State) (QQ : Outcome → State → Prop) : Prop :=
  ∃ s₂ o, Steps p.tables e below S s₂ ∧ s₂.status = .running ∧ Ended s₂ below o ∧ QQ o s₂
theorem own_Go.of {S S' : State} {QQ : Outcome → State → Prop} (h : ∀ t, Steps p.tables e below S' t → Steps p.tables e below S t) (g : own_Go p e below S' QQ) : own_Go p e below S QQ := by
  obtain ⟨a, b, h1, h2⟩ := g
  exact ⟨a, b, h _ h1, h2⟩
/-- how a walked body ends: it returns v, with Q of the value, the heap and the places written -/
def own_End (s : State) (Q : Option Value → Heap → List Loc → Prop) (C K : Nat) : Outcome → State → Prop :=
  fun o U' => ∃ v L, o = .returned v ∧ Q v U'.heap L ∧ FrameEnd s o U' L C K
/-- the contract of a body, as RoadKit.backOf takes it -/
abbrev own_Met (l : Launch) (Z : State) (h0 : Heap) (y : MethodName) (bytes : ByteArray) (maxL : Nat) (ret : Option FieldType) (ws : List Jvm.Cond) (rm : Room) (as' : Array Value) (Q : Option Value → Heap → List Loc → Prop) : Prop :=
  MetFree l y (head1 (Jvm.Cond.code y bytes maxL ret :: ws) rm) (fun a U => a = as' ∧ Z.Warmed39 U.vm ∧ U.heap = h0) (fun _ _ _ _ _ => True) (fun _ U o U' => ∃ v L, o = .returned v ∧ Q v U'.heap L ∧ FrameEnd U o U' L rm.cells rm.slots)
theorem own_enter {h0 : Heap} {y : MethodName} {bytes : ByteArray} {maxL : Nat} {ret : Option FieldType} {ws : List Jvm.Cond} {rm : Room} {as' : Array Value} {Q : Option Value → Heap → List Loc → Prop} (hpl : plainFor y = true)
    (body : ∀ (p : Program) (e : Env) (s : State) (m : MethodId) (below : List Frame) (meth : Method) (c : Code) (T0 : State), Stand p l e rm s m as' below meth c T0 [] 0 0 → p.tables.exec = Jvm.exec → c.code = bytes → c.maxLocals = maxL → meth.sig.returnType = ret → meth.locks = false → s.vm.findClass y.cls = some m.cls → meth.name = y.name → Z.Warmed39 s.vm → T0.heap = h0 →
      own_Go p e below (T0.setTop (entryFrame m as' maxL)) (own_End s Q rm.cells rm.slots)) : own_Met l Z h0 y bytes maxL ret ws rm as' Q := by
  refine MetFree.of_bodySF hpl hisR ?_
  intro p e s m args below meth c s₁ Bd hml0 hP hK
  obtain ⟨rfl, hZ, hh⟩ := hP
  exact body p e s m below meth c s₁ (Stand.of_body Bd) Bd.exec Bd.bytes hml0 Bd.returns Bd.notSynchronized (findClass_of_methodNamed Bd.named) (name_of_methodNamed Bd.named Bd.method).1 hZ (by rw [← hh, Bd.state]; rfl)
theorem own_mono (X : Stand p l e R s m args below meth c T locs cells slots) {c' k' : Nat} (hc : cells ≤ c') (hk : slots ≤ k') : Stand p l e R s m args below meth c T locs c' k' :=
  ⟨X.admits, X.cas, X.clock, X.frames, X.room, X.hears, X.method, X.code, X.here, X.tail, X.warmed, X.limits, X.bytes, X.same.mono hc hk⟩
theorem own_leave (X : Stand p l e R s m args below meth c T locs cells slots) (hlk : meth.locks = false) {v : Option Value} {Q : Option Value → Heap → List Loc → Prop} {C K : Nat} {g : JFrame} (hv : meth.sig.returnType = none → v = none)
    (st : ∀ fs, (∀ (f : JFrame) (acts : List Action), f.method = m → f.locked = none → f.entered = [] → (doReturn e (T.setTop f) acts v).1 = T.setFrames fs) → Steps p.tables e below (T.setTop g) (T.setFrames fs))
    (eT : T.heap = h) (hQ : Q v h locs) (hc : cells ≤ C) (hk : slots ≤ K) : own_Go p e below (T.setTop g) (own_End s Q C K) := by
  obtain ⟨fs, hr, hrun, hended, hW, hsame⟩ := X.leave (v := v) hv hlk
  subst eT
  exact ⟨_, _, st fs hr, hrun, hended, v, locs, rfl, hQ, ⟨_, rfl⟩, hW, hsame.mono hc hk⟩
theorem own_retI (X : Stand p l e R s m args below meth c T locs cells slots) (hx : p.tables.exec = Jvm.exec) (hlk : meth.locks = false) {pc : Nat} {Ls : Array Slot} {z : Int32} {rest : List Value} {Q : Option Value → Heap → List Loc → Prop} {C K : Nat} (hret : meth.sig.returnType = some .int) (hd : decode c.code pc = .ok (.ireturn, 1))
    (eT : T.heap = h) (hQ : Q (some (.int z)) h locs) (hc : cells ≤ C) (hk : slots ≤ K) : own_Go p e below (T.setTop (mkF m pc Ls (.int z :: rest))) (own_End s Q C K) := by
  refine own_leave X hlk (fun q => by rw [hret] at q; cases q) (fun fs hl => ?_) eT hQ hc hk
  have hm' : T.vm.method? m = some meth := X.method'
  have hn : narrow .int (.int z) = .int z := rfl
  show Steps p.tables e below (T.setTop { method := m, pc := pc, locals := Ls, stack := _ :: rest, locked := none }) _
  jvm_step X.here [X.here.top, hx, hd, hm', hret, hn]
  first | (intro acts; rw [hl _ acts rfl rfl rfl]) | rw [hl _ _ rfl rfl rfl]
  exact Steps.refl _
theorem own_retN (X : Stand p l e R s m args below meth c T locs cells slots) (hx : p.tables.exec = Jvm.exec) (hlk : meth.locks = false) {pc : Nat} {Ls : Array Slot} {z : Int32} {t : FieldType} {rest : List Value} {Q : Option Value → Heap → List Loc → Prop} {C K : Nat} (hret : meth.sig.returnType = some t) (ht : t = .boolean ∨ t = .byte ∨ t = .char ∨ t = .short) (hd : decode c.code pc = .ok (.ireturn, 1))
    (eT : T.heap = h) (hQ : Q (some (.int (nar t z))) h locs) (hc : cells ≤ C) (hk : slots ≤ K) : own_Go p e below (T.setTop (mkF m pc Ls (.int z :: rest))) (own_End s Q C K) :=
  own_leave X hlk (fun q => by rw [hret] at q; cases q) (fun fs hl => retN X hx hret ht hd hl) eT hQ hc hk
theorem own_retV (X : Stand p l e R s m args below meth c T locs cells slots) (hx : p.tables.exec = Jvm.exec) (hlk : meth.locks = false) {pc : Nat} {Ls : Array Slot} {Q : Option Value → Heap → List Loc → Prop} {C K : Nat} (hret : meth.sig.returnType = none) (hd : decode c.code pc = .ok (.return_, 1))
    (eT : T.heap = h) (hQ : Q none h locs) (hc : cells ≤ C) (hk : slots ≤ K) : own_Go p e below (T.setTop (mkF m pc Ls [])) (own_End s Q C K) :=
  own_leave X hlk (fun _ => rfl) (fun fs hl => X.returnOut hx hret hd hl) eT hQ hc hk
theorem own_retJ (X : Stand p l e R s m args below meth c T locs cells slots) (hx : p.tables.exec = Jvm.exec) (hlk : meth.locks = false) {pc : Nat} {Ls : Array Slot} {z : Int64} {Q : Option Value → Heap → List Loc → Prop} {C K : Nat} (hret : meth.sig.returnType = some .long) (hd : decode c.code pc = .ok (.lreturn, 1))
    (eT : T.heap = h) (hQ : Q (some (.long z)) h locs) (hc : cells ≤ C) (hk : slots ≤ K) : own_Go p e below (T.setTop (mkF m pc Ls [.long z])) (own_End s Q C K) :=
  own_leave X hlk (fun q => by rw [hret] at q; cases q) (fun fs hl => X.lreturnOut hx hret hd hl) eT hQ hc hk
theorem own_retA (X : Stand p l e R s m args below meth c T locs cells slots) (hx : p.tables.exec = Jvm.exec) (hlk : meth.locks = false) {pc : Nat} {Ls : Array Slot} {v : Value} {t : FieldType} {rest : List Value} {Q : Option Value → Heap → List Loc → Prop} {C K : Nat} (hret : meth.sig.returnType = some t) (ht : t.isReference = true) (hv : v.isRef = true) (hd : decode c.code pc = .ok (.areturn, 1))
    (eT : T.heap = h) (hQ : Q (some v) h locs) (hc : cells ≤ C) (hk : slots ≤ K) : own_Go p e below (T.setTop (mkF m pc Ls (v :: rest))) (own_End s Q C K) := by
  refine own_leave X hlk (fun q => by rw [hret] at q; cases q) (fun fs hl => ?_) eT hQ hc hk
  have hm' : T.vm.method? m = some meth := X.method'
  show Steps p.tables e below (T.setTop { method := m, pc := pc, locals := Ls, stack := _ :: rest, locked := none }) _
  jvm_step X.here [X.here.top, hx, hd, hm', hret, ht, hv]
  first | (intro acts; rw [hl _ acts rfl rfl rfl]) | rw [hl _ _ rfl rfl rfl]
  exact Steps.refl _
/-! an array whose place i holds f i -/
def own_Ar (Z : State) (h : Heap) (a : Addr) (ty : FieldType) (n : Nat) (f : Nat → Value) : Prop :=
  n < 2 ^ 31 ∧ ∃ c : Cell, Arr Z h a c ty ∧ c.slots.size = n ∧ ∀ i, i < n → c.slots[i]? = some (f i) ∧ fits ty (f i) = true
def own_up (f : Nat → Value) (k : Nat) (v : Value) : Nat → Value := fun i => if i = k then v else f i
def own_I (g : Nat → Int32) : Nat → Value := fun j => .int (g j)
def own_set (g : Nat → Int32) (k : Nat) (x : Int32) : Nat → Int32 := fun j => if j = k then x else g j
theorem own_upI {g : Nat → Int32} {k : Nat} {x : Int32} : own_up (own_I g) k (.int x) = own_I (own_set g k x) := by
  funext j
  unfold own_up own_I own_set
  by_cases q : j = k
  · rw [if_pos q, if_pos q]
  · rw [if_neg q, if_neg q]
section Arrays
variable {a b : Addr} {ty : FieldType} {n k : Nat} {f : Nat → Value} {v : Value} {ws : List Addr} {sl : Nat} {j : Int32}
theorem own_Ar.lt (F : own_Ar Z h a ty n f) : a < h.size := by obtain ⟨_, c, A, _⟩ := F; exact A.lt
theorem own_Ar.ext (F : own_Ar Z h a ty n f) (E : Ext h h') : own_Ar Z h' a ty n f := by obtain ⟨q, c, A, r⟩ := F; exact ⟨q, c, A.ext E, r⟩
theorem own_Ar.other (F : own_Ar Z h b ty n f) (W : Wr h h' a sl v) (q : b ≠ a) : own_Ar Z h' b ty n f := by obtain ⟨q0, c, A, r⟩ := F; exact ⟨q0, c, A.other W q, r⟩
theorem own_Ar.keep (F : own_Ar Z h a ty n f) (K : Keep h h' ws) (q : a ∉ ws) : own_Ar Z h' a ty n f := by obtain ⟨q0, c, A, r⟩ := F; exact ⟨q0, c, ⟨K.2.1 a c A.1 q, A.2⟩, r⟩
theorem own_Ar.eqv {g : Nat → Value} (F : own_Ar Z h a ty n f) (q : ∀ i, i < n → f i = g i) : own_Ar Z h a ty n g := by
  obtain ⟨q0, c, A, r1, r2⟩ := F; exact ⟨q0, c, A, r1, fun i hi => by rw [← q i hi]; exact r2 i hi⟩
theorem own_Ar.eqvI {g g' : Nat → Int32} (F : own_Ar Z h a ty n (own_I g)) (q : ∀ i, i < n → g i = g' i) : own_Ar Z h a ty n (own_I g') := F.eqv fun i hi => by show Value.int _ = Value.int _; rw [q i hi]
theorem own_clamp (hk : k < 2 ^ 31) : (Int32.ofNat k).toNatClampNeg = k ∧ ¬ Int32.ofNat k < 0 := by
  have e : (Int32.ofNat k).toInt = (k : Int) := Int32.toInt_ofNat_of_lt hk
  refine ⟨?_, ?_⟩
  · show (Int32.ofNat k).toInt.toNat = k
    rw [e]; rfl
  · rw [Int32.lt_iff_toInt_lt, e]
    show ¬ ((k : Int) < 0)
    omega
theorem own_inb {cl : Cell} (S : cl.slots.size = n) (hn : n < 2 ^ 31) (e : j = Int32.ofNat k) (hk : k < n) : ¬ (j < 0 ∨ cl.slots.size ≤ j.toNatClampNeg) := by
  subst e
  obtain ⟨e1, e2⟩ := own_clamp (k := k) (by omega)
  rw [e1, S]
  rintro (q | q)
  · exact e2 q
  · omega
theorem own_Ar.get (F : own_Ar Z h a ty n f) (q : j = Int32.ofNat k ∧ k < n) : ∃ cl : Cell, Arr Z h a cl ty ∧ ¬ (j < 0 ∨ cl.slots.size ≤ j.toNatClampNeg) ∧ cl.slots[j.toNatClampNeg]? = some (f k) := by
  obtain ⟨hn, c, A, S, H⟩ := F
  refine ⟨c, A, own_inb S hn q.1 q.2, ?_⟩
  rw [q.1, (own_clamp (k := k) (by omega)).1]
  exact (H k q.2).1
theorem own_Ar.len (F : own_Ar Z h a ty n f) : ∃ cl : Cell, Arr Z h a cl ty ∧ cl.slots.size.toInt32 = Int32.ofNat n := by
  obtain ⟨hn, c, A, S, H⟩ := F
  refine ⟨c, A, ?_⟩
  rw [S]
theorem own_Ar.put (F : own_Ar Z h a ty n f) (q : j = Int32.ofNat k ∧ k < n) : ∃ cl : Cell, Arr Z h a cl ty ∧ ¬ (j < 0 ∨ cl.slots.size ≤ j.toNatClampNeg) ∧ ∀ {v : Value} {h' : Heap}, fits ty v = true → Wr h h' a j.toNatClampNeg v → own_Ar Z h' a ty n (own_up f k v) := by
  obtain ⟨hn, c, A, S, H⟩ := F
  refine ⟨c, A, own_inb S hn q.1 q.2, fun {v h'} hv W => ⟨hn, _, A.same W, by rw [sz_set]; exact S, fun i hi => ?_⟩⟩
  rw [q.1, (own_clamp (k := k) (by omega)).1]
  by_cases u : i = k
  · subst u
    simp [own_up, Cell.setSlot, S, hi, hv]
  · have u' : ¬ k = i := fun z => u z.symm
    simp only [own_up, u, if_false, Cell.setSlot, Array.getElem?_setIfInBounds, u']
    exact H i hi
theorem own_newP (X : Stand p l e R s m args below meth c T locs cells slots) (hx : p.tables.exec = Jvm.exec) (hZ : Z.Warmed39 s.vm) {aty : ArrayType} (w : (Cond.arrayClass (newarray.typeOf aty)).before a0 Z = true) (eT : T.heap = h) {g : JFrame} (hg : g.method = m) (hd : decode c.code g.pc = .ok (.newarray aty, 2)) {z : Int32} {rest : List Value} (hs : g.stack = .int z :: rest)
    {n cap : Nat} (hz : z = Int32.ofNat n) (hn : n ≤ cap) (hb : cap * 8 ≤ 536870912) (hc : cells + 1 ≤ R.cells) (hl : slots + cap ≤ R.slots) :
    ∃ T' h', Stand p l e R s m args below meth c T' locs (cells + 1) (slots + cap) ∧ T'.heap = h' ∧ Ext h h' ∧ own_Ar Z h' h.size (newarray.typeOf aty) n (fun _ => defaultValue (newarray.typeOf aty)) ∧
      ∀ target, Steps p.tables e below (T'.setTop { g with pc := g.pc + 2, stack := .ref h.size :: rest }) target → Steps p.tables e below (T.setTop g) target := by
  obtain ⟨e1, e2⟩ := own_clamp (k := n) (by omega)
  subst hz
  obtain ⟨T', h', cA, X', e', E, A, st⟩ := newP X hx hZ w eT hg hd hs e2 (cap := cap) (by rw [e1]; exact hn) hb hc hl
  refine ⟨T', h', X', e', E, ⟨by omega, _, A, by rw [sz_new, e1], fun i hi => ⟨?_, by cases aty <;> rfl⟩⟩, st⟩
  simp [newA, e1, hi]
end Arrays
theorem own_st1 {l : Array Slot} {i : Nat} {v : Value} {o : Slot} (hold : l[i]? = some o) (ho : o = .unset ∨ ∃ w, o = .val w ∧ w.category = 1) (hv : v.category = 1) : storeLocals l i v = some (l.setIfInBounds i (.val v)) := XS.store1 hold ho hv
/-- the cell at x stands as it stood -/
def own_Kx (h h' : Heap) (x : Addr) : Prop := h.size ≤ h'.size ∧ ∀ c : Cell, h[x]? = some c → h'[x]? = some c
section Kx
variable {x a : Addr} {h2 : Heap} {sl : Nat} {v : Value} {ws : List Addr}
theorem own_Kx.refl : own_Kx h h x := ⟨Nat.le_refl _, fun _ q => q⟩
theorem own_Kx.ext (K : own_Kx h h' x) (E : Ext h' h2) : own_Kx h h2 x := ⟨Nat.le_trans K.1 E.1, fun c q => E.2 _ _ (K.2 c q)⟩
theorem own_Kx.keep (K : own_Kx h h' x) (K' : Keep h' h2 ws) (q : x ∉ ws) : own_Kx h h2 x := ⟨Nat.le_trans K.1 K'.1, fun c r => K'.2.1 _ _ (K.2 c r) q⟩
theorem own_Kx.wr (K : own_Kx h h' x) (W : Wr h' h2 a sl v) (q : x ≠ a) : own_Kx h h2 x := K.keep (Keep.of_wr W) (ninS q nin0)
theorem own_Kx.trans (K : own_Kx h h' x) (K' : own_Kx h' h2 x) : own_Kx h h2 x := ⟨Nat.le_trans K.1 K'.1, fun c r => K'.2 _ (K.2 c r)⟩
theorem own_Ar.kx {ty : FieldType} {n : Nat} {f : Nat → Value} (F : own_Ar Z h x ty n f) (K : own_Kx h h' x) : own_Ar Z h' x ty n f := by obtain ⟨q0, c, A, r⟩ := F; exact ⟨q0, c, ⟨K.2 c A.1, A.2⟩, r⟩
def own_Lt (h : Heap) (x : Addr) : Prop := x < h.size
theorem own_Lt.lt (q : own_Lt h x) : x < h.size := q
theorem own_Lt.ext (q : own_Lt h x) (E : Ext h h') : own_Lt h' x := Nat.lt_of_lt_of_le q E.1
theorem own_Lt.keep (q : own_Lt h x) (K : Keep h h' ws) : own_Lt h' x := Nat.lt_of_lt_of_le q K.1
theorem own_Lt.wr (q : own_Lt h x) (W : Wr h h' a sl v) : own_Lt h' x := q.keep (Keep.of_wr W)
theorem own_Lt.kx {y : Addr} (q : own_Lt h x) (K : own_Kx h h' y) : own_Lt h' x := Nat.lt_of_lt_of_le q K.1
end Kx
/-! numbers: small naturals as ints -/
theorem own_toInt {a : Nat} (ha : a < 2 ^ 31) : (Int32.ofNat a).toInt = (a : Int) := Int32.toInt_ofNat_of_lt ha
theorem own_mask (x : Int32) (m : Nat) : ∃ k : Nat, k ≤ m ∧ (x &&& Int32.ofNat m) = Int32.ofNat k := by
  refine ⟨(x.toBitVec.toNat &&& (m % 2 ^ 32)), Nat.le_trans Nat.and_le_right (Nat.mod_le _ _), ?_⟩
  apply Int32.toBitVec_inj.mp
  apply BitVec.eq_of_toNat_eq
  rw [Int32.toBitVec_and, BitVec.toNat_and]
  show _ &&& (BitVec.ofNat 32 m).toNat = (BitVec.ofNat 32 _).toNat
  rw [BitVec.toNat_ofNat, BitVec.toNat_ofNat]
  rw [Nat.mod_eq_of_lt (a := _ &&& _)]
  exact Nat.lt_of_le_of_lt Nat.and_le_right (Nat.mod_lt _ (by decide))
theorem own_ltN {a b : Nat} (ha : a < 2 ^ 31) (hb : b < 2 ^ 31) : Int32.ofNat a < Int32.ofNat b ↔ a < b := by
  rw [Int32.lt_iff_toInt_lt, own_toInt ha, own_toInt hb]; omega
theorem own_eqN' {a b : Nat} (h : a = b) : Int32.ofNat a = Int32.ofNat b := by rw [h]
theorem own_eqN {a b : Nat} (ha : a < 2 ^ 31) (hb : b < 2 ^ 31) : Int32.ofNat a = Int32.ofNat b ↔ a = b := by
  constructor
  · intro h
    have h2 := congrArg Int32.toInt h
    rw [own_toInt ha, own_toInt hb] at h2; omega
  · exact own_eqN'
theorem own_addN (a b : Nat) : Int32.ofNat a + Int32.ofNat b = Int32.ofNat (a + b) := (Int32.ofNat_add a b).symm
theorem own_subN {a b : Nat} (h : b ≤ a) : Int32.ofNat a - Int32.ofNat b = Int32.ofNat (a - b) := by
  have h2 : Int32.ofNat a = Int32.ofNat (a - b) + Int32.ofNat b := by rw [own_addN]; congr 1; omega
  rw [h2, Int32.add_sub_cancel]
theorem own_nzN {a : Nat} (h0 : 0 < a) (ha : a < 2 ^ 31) : Int32.ofNat a ≠ (0 : Int32) := by
  intro h
  have h2 : Int32.ofNat a = Int32.ofNat 0 := h
  rw [own_eqN ha (by decide)] at h2; omega
theorem own_remN {a b : Nat} (ha : a < 2 ^ 31) (hb : b < 2 ^ 31) : (Int32.ofNat a - (Int32.ofNat a / Int32.ofNat b) * Int32.ofNat b) = Int32.ofNat (a % b) := by
  apply Int32.toInt_inj.mp
  have hm : a % b < 2 ^ 31 := Nat.lt_of_le_of_lt (Nat.mod_le _ _) ha
  rw [rem_toInt, own_toInt ha, own_toInt hb, own_toInt hm]
  exact (Int.ofNat_tmod a b).symm
theorem own_bm (x : Int) (h1 : -2147483648 ≤ x) (h2 : x < 2147483648) : x.bmod (2 ^ 32) = x := Int.bmod_eq_of_le (by omega) (by omega)
theorem own_bm64 (x : Int) (h1 : -9223372036854775808 ≤ x) (h2 : x < 9223372036854775808) : x.bmod (2 ^ 64) = x := Int.bmod_eq_of_le (by omega) (by omega)
end Own

def own_first (q : Int64) : Int32 := q.toInt32 &&& (1073741823 : Int32)
def own_width (q : Int64) : Int32 := ((q.toUInt64 >>> ((32 : Int32) &&& 0x3f).toInt64.toUInt64).toInt64).toInt32 &&& (1073741823 : Int32)
def own_cs (l f : Nat → Int32) (a : Nat) : Nat → Int64
  | 0 => 0
  | k + 1 => own_cs l f a k + ((l (a + k) - f (a + k)) + (1 : Int32)).toInt64
def own_part (lo hi r : Nat) (w : Int64) : Int64 := if lo ≤ r ∧ r < hi then w else 0
theorem own_L {a : Nat} (ha : a < 2 ^ 31) : ((Int32.ofNat a).toInt64).toInt = (a : Int) := by rw [Int32.toInt_toInt64, own_toInt ha]
theorem own_w {a b : Nat} (ha : a ≤ 1073741823) (hb : b ≤ 1073741823) : ((Int32.ofNat (a + b) - Int32.ofNat a) + (1 : Int32)).toInt64 = ((Int32.ofNat (a + b)).toInt64 - (Int32.ofNat a).toInt64) + (1 : Int64) := by
  rw [own_subN (by omega), show a + b - a = b by omega, show Int32.ofNat b + (1 : Int32) = Int32.ofNat (b + 1) from own_addN b 1]
  apply Int64.toInt_inj.mp
  have e1 : (1 : Int64).toInt = 1 := rfl
  rw [Int64.toInt_add, Int64.toInt_sub, own_L (by omega), own_L (by omega), own_L (by omega), e1]
  rw [Int.bmod_eq_of_le (n := ((a + b : Nat) : Int) - (a : Nat)) (by omega) (by omega), Int.bmod_eq_of_le (by omega) (by omega)]
  omega
def own_t3 (x y z : Int32) : Nat → Int32 := own_set (own_set (own_set (fun _ => (0 : Int32)) 0 x) 1 y) 2 z
theorem own_tot (l0 l1 l2 f0 f1 f2 : Int32) {lo hi : Nat} (hlo : lo ≤ hi) (hhi : hi ≤ 3) :
    own_cs (own_t3 l0 l1 l2) (own_t3 f0 f1 f2) lo (hi - lo) = ((own_part lo hi 0 ((l0 - f0) + (1 : Int32)).toInt64 + own_part lo hi 1 ((l1 - f1) + (1 : Int32)).toInt64) + own_part lo hi 2 ((l2 - f2) + (1 : Int32)).toInt64) := by
  obtain rfl | rfl | rfl | rfl : hi = 0 ∨ hi = 1 ∨ hi = 2 ∨ hi = 3 := by omega
  all_goals obtain rfl | rfl | rfl | rfl : lo = 0 ∨ lo = 1 ∨ lo = 2 ∨ lo = 3 := by omega
  all_goals first | omega | simp [own_cs, own_part, own_t3, own_set]
theorem own_total {a0 b0 a1 b1 a2 b2 lo hi : Nat} (h0 : a0 ≤ 1073741823) (g0 : b0 ≤ 1073741823) (h1 : a1 ≤ 1073741823) (g1 : b1 ≤ 1073741823) (h2 : a2 ≤ 1073741823) (g2 : b2 ≤ 1073741823) (hlo : lo ≤ hi) (hhi : hi ≤ 3) :
    own_cs (own_t3 (Int32.ofNat (a0 + b0)) (Int32.ofNat (a1 + b1)) (Int32.ofNat (a2 + b2))) (own_t3 (Int32.ofNat a0) (Int32.ofNat a1) (Int32.ofNat a2)) lo (hi - lo)
      = ((own_part lo hi 0 (((Int32.ofNat (a0 + b0)).toInt64 - (Int32.ofNat a0).toInt64) + (1 : Int64)) + own_part lo hi 1 (((Int32.ofNat (a1 + b1)).toInt64 - (Int32.ofNat a1).toInt64) + (1 : Int64))) + own_part lo hi 2 (((Int32.ofNat (a2 + b2)).toInt64 - (Int32.ofNat a2).toInt64) + (1 : Int64))) := by
  rw [← own_w h0 g0, ← own_w h1 g1, ← own_w h2 g2]
  exact own_tot _ _ _ _ _ _ hlo hhi
theorem d1_0 : decode method_2_code 0 = .ok (.lload_n 0, 1) := by decide +kernel
theorem d1_1 : decode method_2_code 1 = .ok (.l2i, 1) := by decide +kernel
theorem d1_2 : decode method_2_code 2 = .ok (.ldc 7, 2) := by decide +kernel
theorem d1_4 : decode method_2_code 4 = .ok (.iand, 1) := by decide +kernel
theorem d1_5 : decode method_2_code 5 = .ok (.ireturn, 1) := by decide +kernel
theorem pn_1 : plainName "com/example/sagasu/sagasu/RowRunsCellsPinLaw" = true := by first | (simp [plainName, overriddenIn]; done) | decide +kernel
def Q_rm1 (Z : State) (q : Int64) (h0 : Heap) (n0 : Nat) (v : Option Value) (h : Heap) (L : List Loc) : Prop := v = some (.int (own_first q)) ∧ Fr n0 L ∧ h = h0
set_option maxRecDepth 65536 in
set_option maxHeartbeats 40000000 in
theorem rm1 (l : Launch) (Z : State) (a0 : Array Value) (hw : ∀ d ∈ tables_1, d.before a0 Z = true) (ws : List Jvm.Cond) (q : Int64) (h0 : Heap) (n0 : Nat) (Z0 : n0 ≤ h0.size)  :
    own_Met l Z h0 (⟨"com/example/sagasu/sagasu/RowRunsCellsPinLaw", "first", "(J)I"⟩ : MethodName) method_2_code 2 (some .int) ws ({ frames := 0, cells := 0, slots := 0, locals := 0 } : Room) #[(.long q)] (Q_rm1 Z q h0 n0) := by
  refine own_enter (plainFor_of_name pn_1) ?_
  intro p e s m below meth c T0 X0 hx hby hml hret hlk hown hnm hZ e0
  have N0 := Fr.nil n0
  rw [show entryFrame m #[(.long q)] 2 = (mkF m 0 #[.val (.long q), .second] []) from by first | (simp [entryFrame, mkF, argsToLocals, Value.category]; done) | rfl]
  refine own_Go.of (S' := (T0.setTop (mkF m 5 #[.val (.long q), .second] [(.int ((q.toInt32) &&& (1073741823 : Int32)))]))) (fun t kt => ?_) ?_
  · show Steps p.tables e below (T0.setTop (mkF m 0 #[.val (.long q), .second] [])) _
    refine XS.lloadN X0.here hx rfl (own_hb hby d1_0) rfl ?_
    show Steps p.tables e below (T0.setTop (mkF m 1 #[.val (.long q), .second] [(.long q)])) _
    refine XS.l2i X0.here hx rfl (own_hb hby d1_1) rfl ?_
    show Steps p.tables e below (T0.setTop (mkF m 2 #[.val (.long q), .second] [(.int (q.toInt32))])) _
    refine X0.ldcInt hx hown (mvT hZ (hw _ (List.mem_of_getElem? (i := 4) rfl))) (g := (mkF m 2 #[.val (.long q), .second] [(.int (q.toInt32))])) rfl (own_hb hby d1_2) _ ?_
    show Steps p.tables e below (T0.setTop (mkF m 4 #[.val (.long q), .second] [(.int (1073741823 : Int32)), (.int (q.toInt32))])) _
    refine XS.iand X0.here hx rfl (own_hb hby d1_4) rfl ?_
    exact kt
  exact own_retI X0 hx hlk hret (own_hb hby d1_5) e0 ⟨rfl, N0, rfl⟩ (by decide) (by decide)
theorem d2_0 : decode method_3_code 0 = .ok (.lload_n 0, 1) := by decide +kernel
theorem d2_1 : decode method_3_code 1 = .ok (.bipush 32, 2) := by decide +kernel
theorem d2_3 : decode method_3_code 3 = .ok (.lushr, 1) := by decide +kernel
theorem d2_4 : decode method_3_code 4 = .ok (.l2i, 1) := by decide +kernel
theorem d2_5 : decode method_3_code 5 = .ok (.ldc 7, 2) := by decide +kernel
theorem d2_7 : decode method_3_code 7 = .ok (.iand, 1) := by decide +kernel
theorem d2_8 : decode method_3_code 8 = .ok (.ireturn, 1) := by decide +kernel
theorem pn_2 : plainName "com/example/sagasu/sagasu/RowRunsCellsPinLaw" = true := by first | (simp [plainName, overriddenIn]; done) | decide +kernel
def Q_rm2 (Z : State) (q : Int64) (h0 : Heap) (n0 : Nat) (v : Option Value) (h : Heap) (L : List Loc) : Prop := v = some (.int (own_width q)) ∧ Fr n0 L ∧ h = h0
set_option maxRecDepth 65536 in
set_option maxHeartbeats 40000000 in
theorem rm2 (l : Launch) (Z : State) (a0 : Array Value) (hw : ∀ d ∈ tables_1, d.before a0 Z = true) (ws : List Jvm.Cond) (q : Int64) (h0 : Heap) (n0 : Nat) (Z0 : n0 ≤ h0.size)  :
    own_Met l Z h0 (⟨"com/example/sagasu/sagasu/RowRunsCellsPinLaw", "width", "(J)I"⟩ : MethodName) method_3_code 2 (some .int) ws ({ frames := 0, cells := 0, slots := 0, locals := 0 } : Room) #[(.long q)] (Q_rm2 Z q h0 n0) := by
  refine own_enter (plainFor_of_name pn_2) ?_
  intro p e s m below meth c T0 X0 hx hby hml hret hlk hown hnm hZ e0
  have N0 := Fr.nil n0
  rw [show entryFrame m #[(.long q)] 2 = (mkF m 0 #[.val (.long q), .second] []) from by first | (simp [entryFrame, mkF, argsToLocals, Value.category]; done) | rfl]
  refine own_Go.of (S' := (T0.setTop (mkF m 8 #[.val (.long q), .second] [(.int ((((q.toUInt64 >>> ((32 : Int32) &&& 0x3f).toInt64.toUInt64).toInt64).toInt32) &&& (1073741823 : Int32)))]))) (fun t kt => ?_) ?_
  · show Steps p.tables e below (T0.setTop (mkF m 0 #[.val (.long q), .second] [])) _
    refine XS.lloadN X0.here hx rfl (own_hb hby d2_0) rfl ?_
    show Steps p.tables e below (T0.setTop (mkF m 1 #[.val (.long q), .second] [(.long q)])) _
    refine XS.bipush X0.here hx rfl (own_hb hby d2_1) ?_
    show Steps p.tables e below (T0.setTop (mkF m 3 #[.val (.long q), .second] [(.int (32 : Int32)), (.long q)])) _
    refine XS.lushr X0.here hx rfl (own_hb hby d2_3) rfl ?_
    show Steps p.tables e below (T0.setTop (mkF m 4 #[.val (.long q), .second] [(.long ((q.toUInt64 >>> ((32 : Int32) &&& 0x3f).toInt64.toUInt64).toInt64))])) _
    refine XS.l2i X0.here hx rfl (own_hb hby d2_4) rfl ?_
    show Steps p.tables e below (T0.setTop (mkF m 5 #[.val (.long q), .second] [(.int (((q.toUInt64 >>> ((32 : Int32) &&& 0x3f).toInt64.toUInt64).toInt64).toInt32))])) _
    refine X0.ldcInt hx hown (mvT hZ (hw _ (List.mem_of_getElem? (i := 4) rfl))) (g := (mkF m 5 #[.val (.long q), .second] [(.int (((q.toUInt64 >>> ((32 : Int32) &&& 0x3f).toInt64.toUInt64).toInt64).toInt32))])) rfl (own_hb hby d2_5) _ ?_
    show Steps p.tables e below (T0.setTop (mkF m 7 #[.val (.long q), .second] [(.int (1073741823 : Int32)), (.int (((q.toUInt64 >>> ((32 : Int32) &&& 0x3f).toInt64.toUInt64).toInt64).toInt32))])) _
    refine XS.iand X0.here hx rfl (own_hb hby d2_7) rfl ?_
    exact kt
  exact own_retI X0 hx hlk hret (own_hb hby d2_8) e0 ⟨rfl, N0, rfl⟩ (by decide) (by decide)
theorem d3_0 : decode jdk_29_method_69_code 0 = .ok (.iload_n 0, 1) := by decide +kernel
theorem d3_1 : decode jdk_29_method_69_code 1 = .ok (.iload_n 1, 1) := by decide +kernel
theorem d3_2 : decode jdk_29_method_69_code 2 = .ok (.if_icmp .gt 7, 3) := by decide +kernel
theorem d3_5 : decode jdk_29_method_69_code 5 = .ok (.iload_n 0, 1) := by decide +kernel
theorem d3_6 : decode jdk_29_method_69_code 6 = .ok (.goto 4, 3) := by decide +kernel
theorem d3_9 : decode jdk_29_method_69_code 9 = .ok (.iload_n 1, 1) := by decide +kernel
theorem d3_10 : decode jdk_29_method_69_code 10 = .ok (.ireturn, 1) := by decide +kernel
def Q_rm3 (Z : State) (a : Nat) (b : Nat) (h0 : Heap) (n0 : Nat) (v : Option Value) (h : Heap) (L : List Loc) : Prop := v = some (.int (Int32.ofNat (min a b))) ∧ Fr n0 L ∧ h = h0
set_option maxRecDepth 65536 in
set_option maxHeartbeats 40000000 in
theorem rm3 (l : Launch) (Z : State) (a0 : Array Value) (hw : ∀ d ∈ tables_1, d.before a0 Z = true) (ws : List Jvm.Cond) (a : Nat) (b : Nat) (h0 : Heap) (n0 : Nat) (Z0 : n0 ≤ h0.size) (ha : a < 2 ^ 31) (hb : b < 2 ^ 31) :
    own_Met l Z h0 (⟨"java/lang/Math", "min", "(II)I"⟩ : MethodName) jdk_29_method_69_code 2 (some .int) ws ({ frames := 0, cells := 0, slots := 0, locals := 0 } : Room) #[(.int (Int32.ofNat a)), (.int (Int32.ofNat b))] (Q_rm3 Z a b h0 n0) := by
  refine own_enter (Jvm.Free.JP.mathPlain rfl (by decide +kernel)) ?_
  intro p e s m below meth c T0 X0 hx hby hml hret hlk hown hnm hZ e0
  have N0 := Fr.nil n0
  rw [show entryFrame m #[(.int (Int32.ofNat a)), (.int (Int32.ofNat b))] 2 = (mkF m 0 #[.val (.int (Int32.ofNat a)), .val (.int (Int32.ofNat b))] []) from by first | (simp [entryFrame, mkF, argsToLocals, Value.category]; done) | rfl]
  refine own_Go.of (S' := (T0.setTop (mkF m 2 #[.val (.int (Int32.ofNat a)), .val (.int (Int32.ofNat b))] [(.int (Int32.ofNat b)), (.int (Int32.ofNat a))]))) (fun t kt => ?_) ?_
  · show Steps p.tables e below (T0.setTop (mkF m 0 #[.val (.int (Int32.ofNat a)), .val (.int (Int32.ofNat b))] [])) _
    refine XS.iloadN X0.here hx rfl (own_hb hby d3_0) rfl ?_
    show Steps p.tables e below (T0.setTop (mkF m 1 #[.val (.int (Int32.ofNat a)), .val (.int (Int32.ofNat b))] [(.int (Int32.ofNat a))])) _
    refine XS.iloadN X0.here hx rfl (own_hb hby d3_1) rfl ?_
    exact kt
  by_cases hc2_1 : b < a
  · skip
    refine own_Go.of (S' := (T0.setTop (mkF m 10 #[.val (.int (Int32.ofNat a)), .val (.int (Int32.ofNat b))] [(.int (Int32.ofNat b))]))) (fun t kt => ?_) ?_
    · show Steps p.tables e below (T0.setTop (mkF m 2 #[.val (.int (Int32.ofNat a)), .val (.int (Int32.ofNat b))] [(.int (Int32.ofNat b)), (.int (Int32.ofNat a))])) _
      refine XS.icmpYes X0.here hx rfl (pc0 := 2) (pc' := 9) rfl (own_hb hby d3_2) rfl (tlt ((own_ltN (by omega) (by omega)).mpr hc2_1)).2.2.1 (by decide) (by decide) ?_
      show Steps p.tables e below (T0.setTop (mkF m 9 #[.val (.int (Int32.ofNat a)), .val (.int (Int32.ofNat b))] [])) _
      refine XS.iloadN X0.here hx rfl (own_hb hby d3_9) rfl ?_
      exact kt
    exact own_retI X0 hx hlk hret (own_hb hby d3_10) e0 ⟨by rw [Nat.min_eq_right (by omega)], N0, rfl⟩ (by decide) (by decide)
  · skip
    refine own_Go.of (S' := (T0.setTop (mkF m 10 #[.val (.int (Int32.ofNat a)), .val (.int (Int32.ofNat b))] [(.int (Int32.ofNat a))]))) (fun t kt => ?_) ?_
    · show Steps p.tables e below (T0.setTop (mkF m 2 #[.val (.int (Int32.ofNat a)), .val (.int (Int32.ofNat b))] [(.int (Int32.ofNat b)), (.int (Int32.ofNat a))])) _
      refine XS.icmpNo X0.here hx rfl (own_hb hby d3_2) rfl (flt (fun q => hc2_1 ((own_ltN (by omega) (by omega)).mp q))).2.2.1 ?_
      show Steps p.tables e below (T0.setTop (mkF m 5 #[.val (.int (Int32.ofNat a)), .val (.int (Int32.ofNat b))] [])) _
      refine XS.iloadN X0.here hx rfl (own_hb hby d3_5) rfl ?_
      show Steps p.tables e below (T0.setTop (mkF m 6 #[.val (.int (Int32.ofNat a)), .val (.int (Int32.ofNat b))] [(.int (Int32.ofNat a))])) _
      refine XS.goto X0.here hx rfl (pc0 := 6) (pc' := 10) rfl (own_hb hby d3_6) (by decide) (by decide) ?_
      exact kt
    exact own_retI X0 hx hlk hret (own_hb hby d3_10) e0 ⟨by rw [Nat.min_eq_left (by omega)], N0, rfl⟩ (by decide) (by decide)
theorem d4_0 : decode jdk_29_method_65_code 0 = .ok (.iload_n 0, 1) := by decide +kernel
theorem d4_1 : decode jdk_29_method_65_code 1 = .ok (.iload_n 1, 1) := by decide +kernel
theorem d4_2 : decode jdk_29_method_65_code 2 = .ok (.if_icmp .lt 7, 3) := by decide +kernel
theorem d4_5 : decode jdk_29_method_65_code 5 = .ok (.iload_n 0, 1) := by decide +kernel
theorem d4_6 : decode jdk_29_method_65_code 6 = .ok (.goto 4, 3) := by decide +kernel
theorem d4_9 : decode jdk_29_method_65_code 9 = .ok (.iload_n 1, 1) := by decide +kernel
theorem d4_10 : decode jdk_29_method_65_code 10 = .ok (.ireturn, 1) := by decide +kernel
def Q_rm4 (Z : State) (a : Nat) (b : Nat) (h0 : Heap) (n0 : Nat) (v : Option Value) (h : Heap) (L : List Loc) : Prop := v = some (.int (Int32.ofNat (max a b))) ∧ Fr n0 L ∧ h = h0
set_option maxRecDepth 65536 in
set_option maxHeartbeats 40000000 in
theorem rm4 (l : Launch) (Z : State) (a0 : Array Value) (hw : ∀ d ∈ tables_1, d.before a0 Z = true) (ws : List Jvm.Cond) (a : Nat) (b : Nat) (h0 : Heap) (n0 : Nat) (Z0 : n0 ≤ h0.size) (ha : a < 2 ^ 31) (hb : b < 2 ^ 31) :
    own_Met l Z h0 (⟨"java/lang/Math", "max", "(II)I"⟩ : MethodName) jdk_29_method_65_code 2 (some .int) ws ({ frames := 0, cells := 0, slots := 0, locals := 0 } : Room) #[(.int (Int32.ofNat a)), (.int (Int32.ofNat b))] (Q_rm4 Z a b h0 n0) := by
  refine own_enter (Jvm.Free.JP.mathPlain rfl (by decide +kernel)) ?_
  intro p e s m below meth c T0 X0 hx hby hml hret hlk hown hnm hZ e0
  have N0 := Fr.nil n0
  rw [show entryFrame m #[(.int (Int32.ofNat a)), (.int (Int32.ofNat b))] 2 = (mkF m 0 #[.val (.int (Int32.ofNat a)), .val (.int (Int32.ofNat b))] []) from by first | (simp [entryFrame, mkF, argsToLocals, Value.category]; done) | rfl]
  refine own_Go.of (S' := (T0.setTop (mkF m 2 #[.val (.int (Int32.ofNat a)), .val (.int (Int32.ofNat b))] [(.int (Int32.ofNat b)), (.int (Int32.ofNat a))]))) (fun t kt => ?_) ?_
  · show Steps p.tables e below (T0.setTop (mkF m 0 #[.val (.int (Int32.ofNat a)), .val (.int (Int32.ofNat b))] [])) _
    refine XS.iloadN X0.here hx rfl (own_hb hby d4_0) rfl ?_
    show Steps p.tables e below (T0.setTop (mkF m 1 #[.val (.int (Int32.ofNat a)), .val (.int (Int32.ofNat b))] [(.int (Int32.ofNat a))])) _
    refine XS.iloadN X0.here hx rfl (own_hb hby d4_1) rfl ?_
    exact kt
  by_cases hc2_2 : a < b
  · skip
    refine own_Go.of (S' := (T0.setTop (mkF m 10 #[.val (.int (Int32.ofNat a)), .val (.int (Int32.ofNat b))] [(.int (Int32.ofNat b))]))) (fun t kt => ?_) ?_
    · show Steps p.tables e below (T0.setTop (mkF m 2 #[.val (.int (Int32.ofNat a)), .val (.int (Int32.ofNat b))] [(.int (Int32.ofNat b)), (.int (Int32.ofNat a))])) _
      refine XS.icmpYes X0.here hx rfl (pc0 := 2) (pc' := 9) rfl (own_hb hby d4_2) rfl (tlt ((own_ltN (by omega) (by omega)).mpr hc2_2)).1 (by decide) (by decide) ?_
      show Steps p.tables e below (T0.setTop (mkF m 9 #[.val (.int (Int32.ofNat a)), .val (.int (Int32.ofNat b))] [])) _
      refine XS.iloadN X0.here hx rfl (own_hb hby d4_9) rfl ?_
      exact kt
    exact own_retI X0 hx hlk hret (own_hb hby d4_10) e0 ⟨by rw [Nat.max_eq_right (by omega)], N0, rfl⟩ (by decide) (by decide)
  · skip
    refine own_Go.of (S' := (T0.setTop (mkF m 10 #[.val (.int (Int32.ofNat a)), .val (.int (Int32.ofNat b))] [(.int (Int32.ofNat a))]))) (fun t kt => ?_) ?_
    · show Steps p.tables e below (T0.setTop (mkF m 2 #[.val (.int (Int32.ofNat a)), .val (.int (Int32.ofNat b))] [(.int (Int32.ofNat b)), (.int (Int32.ofNat a))])) _
      refine XS.icmpNo X0.here hx rfl (own_hb hby d4_2) rfl (flt (fun q => hc2_2 ((own_ltN (by omega) (by omega)).mp q))).1 ?_
      show Steps p.tables e below (T0.setTop (mkF m 5 #[.val (.int (Int32.ofNat a)), .val (.int (Int32.ofNat b))] [])) _
      refine XS.iloadN X0.here hx rfl (own_hb hby d4_5) rfl ?_
      show Steps p.tables e below (T0.setTop (mkF m 6 #[.val (.int (Int32.ofNat a)), .val (.int (Int32.ofNat b))] [(.int (Int32.ofNat a))])) _
      refine XS.goto X0.here hx rfl (pc0 := 6) (pc' := 10) rfl (own_hb hby d4_6) (by decide) (by decide) ?_
      exact kt
    exact own_retI X0 hx hlk hret (own_hb hby d4_10) e0 ⟨by rw [Nat.max_eq_left (by omega)], N0, rfl⟩ (by decide) (by decide)
theorem d5_0 : decode prog_17_method_1_code 0 = .ok (.aload_n 0, 1) := by decide +kernel
theorem d5_1 : decode prog_17_method_1_code 1 = .ok (.invokespecial 1, 3) := by decide +kernel
theorem d5_4 : decode prog_17_method_1_code 4 = .ok (.aload_n 0, 1) := by decide +kernel
theorem d5_5 : decode prog_17_method_1_code 5 = .ok (.bipush 64, 2) := by decide +kernel
theorem d5_7 : decode prog_17_method_1_code 7 = .ok (.newarray .int, 2) := by decide +kernel
theorem d5_9 : decode prog_17_method_1_code 9 = .ok (.putfield 7, 3) := by decide +kernel
theorem d5_12 : decode prog_17_method_1_code 12 = .ok (.aload_n 0, 1) := by decide +kernel
theorem d5_13 : decode prog_17_method_1_code 13 = .ok (.bipush 64, 2) := by decide +kernel
theorem d5_15 : decode prog_17_method_1_code 15 = .ok (.newarray .int, 2) := by decide +kernel
theorem d5_17 : decode prog_17_method_1_code 17 = .ok (.putfield 13, 3) := by decide +kernel
theorem d5_20 : decode prog_17_method_1_code 20 = .ok (.aload_n 0, 1) := by decide +kernel
theorem d5_21 : decode prog_17_method_1_code 21 = .ok (.bipush 64, 2) := by decide +kernel
theorem d5_23 : decode prog_17_method_1_code 23 = .ok (.newarray .int, 2) := by decide +kernel
theorem d5_25 : decode prog_17_method_1_code 25 = .ok (.putfield 16, 3) := by decide +kernel
theorem d5_28 : decode prog_17_method_1_code 28 = .ok (.return_, 1) := by decide +kernel
theorem pn_5 : plainName "com/example/sagasu/sagasu/Grid$RowRuns" = true := by first | (simp [plainName, overriddenIn]; done) | decide +kernel
def Q_rm5 (Z : State) (o : Addr) (u1 : Value) (u2 : Value) (u3 : Value) (w : Int32) (h0 : Heap) (n0 : Nat) (v : Option Value) (h : Heap) (L : List Loc) : Prop := ∃ r1 : Addr, ∃ r2 : Addr, ∃ r3 : Addr, v = none ∧ Fr n0 L ∧ Keep h0 h [o] ∧ (h0.size ≤ r1) ∧ (h0.size ≤ r2) ∧ (h0.size ≤ r3) ∧ (r1 ≠ r2) ∧ (r1 ≠ r3) ∧ (r2 ≠ r3) ∧ (Exa Z h o "com/example/sagasu/sagasu/Grid$RowRuns") ∧ (Fld Z h o "com/example/sagasu/sagasu/Grid$RowRuns" "rows" "[I" (.ref r1)) ∧ (Fld Z h o "com/example/sagasu/sagasu/Grid$RowRuns" "firstColumns" "[I" (.ref r2)) ∧ (Fld Z h o "com/example/sagasu/sagasu/Grid$RowRuns" "lastColumns" "[I" (.ref r3)) ∧ (Fld Z h o "com/example/sagasu/sagasu/Grid$RowRuns" "size" "I" (.int w)) ∧ (own_Ar Z h r1 .int 64 (own_I (fun _ => (0 : Int32)))) ∧ (own_Ar Z h r2 .int 64 (own_I (fun _ => (0 : Int32)))) ∧ (own_Ar Z h r3 .int 64 (own_I (fun _ => (0 : Int32))))
set_option maxRecDepth 65536 in
set_option maxHeartbeats 40000000 in
theorem rm5 (l : Launch) (Z : State) (a0 : Array Value) (hw : ∀ d ∈ tables_1, d.before a0 Z = true) (ws : List Jvm.Cond) (o : Addr) (u1 : Value) (u2 : Value) (u3 : Value) (w : Int32) (h0 : Heap) (n0 : Nat) (Z0 : n0 ≤ h0.size) (pr0 : Exa Z h0 o "com/example/sagasu/sagasu/Grid$RowRuns") (pr1 : Fld Z h0 o "com/example/sagasu/sagasu/Grid$RowRuns" "rows" "[I" u1) (pr2 : Fld Z h0 o "com/example/sagasu/sagasu/Grid$RowRuns" "firstColumns" "[I" u2) (pr3 : Fld Z h0 o "com/example/sagasu/sagasu/Grid$RowRuns" "lastColumns" "[I" u3) (pr4 : Fld Z h0 o "com/example/sagasu/sagasu/Grid$RowRuns" "size" "I" (.int w)) (pr5 : n0 ≤ o) :
    own_Met l Z h0 (⟨"com/example/sagasu/sagasu/Grid$RowRuns", "<init>", "()V"⟩ : MethodName) prog_17_method_1_code 1 none ws ({ frames := 1, cells := 3, slots := 192, locals := 12 } : Room) #[(.ref o)] (Q_rm5 Z o u1 u2 u3 w h0 n0) := by
  refine own_enter (plainFor_of_name pn_5) ?_
  intro p e s m below meth c T0 X0 hx hby hml hret hlk hown hnm hZ e0
  have N0 := Fr.nil n0
  have kp0 : Keep h0 h0 [o] := Keep.refl h0 _
  rw [show entryFrame m #[(.ref o)] 1 = (mkF m 0 #[.val (.ref o)] []) from by first | (simp [entryFrame, mkF, argsToLocals, Value.category]; done) | rfl]
  refine own_Go.of (S' := (T0.setTop (mkF m 1 #[.val (.ref o)] [(.ref o)]))) (fun t kt => ?_) ?_
  · show Steps p.tables e below (T0.setTop (mkF m 0 #[.val (.ref o)] [])) _
    refine XS.aloadN X0.here hx rfl (own_hb hby d5_0) rfl rfl ?_
    exact kt
  obtain ⟨T3, X3, e3, st3⟩ := initO X0 hx hZ hown (hw _ (List.mem_of_getElem? (i := 21) rfl)) (hw _ (List.mem_of_getElem? (i := 22) rfl)) (hw _ (List.mem_of_getElem? (i := 23) rfl)) e0 (g := (mkF m 1 #[.val (.ref o)] [(.ref o)])) rfl (by rw [hml]; rfl) rfl (own_hb hby d5_1) (by decide) (W := 0) (by show 2 * 0 + _ ≤ _; exact Nat.le_of_eq rfl) (by decide)
  refine own_Go.of (S' := (T3.setTop (mkF m 4 #[.val (.ref o)] []))) st3 ?_
  refine own_Go.of (S' := (T3.setTop (mkF m 7 #[.val (.ref o)] [(.int (64 : Int32)), (.ref o)]))) (fun t kt => ?_) ?_
  · show Steps p.tables e below (T3.setTop (mkF m 4 #[.val (.ref o)] [])) _
    refine XS.aloadN X3.here hx rfl (own_hb hby d5_4) rfl rfl ?_
    show Steps p.tables e below (T3.setTop (mkF m 5 #[.val (.ref o)] [(.ref o)])) _
    refine XS.bipush X3.here hx rfl (own_hb hby d5_5) ?_
    exact kt
  obtain ⟨T4, h4, X4, e4, E4, A4, st4⟩ := own_newP X3 hx hZ (hw _ (List.mem_of_getElem? (i := 24) rfl)) e3 (g := (mkF m 7 #[.val (.ref o)] [(.int (64 : Int32)), (.ref o)])) rfl (own_hb hby d5_7) rfl (n := 64) (cap := 64) rfl (by decide) (by decide) (by decide) (by decide)
  obtain ⟨b4, g4⟩ : ∃ z, z = h0.size := ⟨_, rfl⟩
  rw [← g4] at A4 st4
  have gx4 : n0 ≤ b4 := Nat.le_trans Z0 (Nat.le_of_eq g4.symm)
  have ne5 : o ≠ b4 := Nat.ne_of_lt (Nat.lt_of_lt_of_le pr0.lt (Nat.le_of_eq g4.symm))
  have sz4 : h0.size ≤ b4 := Nat.le_trans kp0.1 (Nat.le_of_eq g4.symm)
  refine own_Go.of (S' := (T4.setTop (mkF m 9 #[.val (.ref o)] [(.ref b4), (.ref o)]))) st4 ?_
  have f6 : Exa Z h4 o "com/example/sagasu/sagasu/Grid$RowRuns" := pr0.ext E4
  have f7 : Fld Z h4 o "com/example/sagasu/sagasu/Grid$RowRuns" "rows" "[I" u1 := pr1.ext E4
  have f8 : Fld Z h4 o "com/example/sagasu/sagasu/Grid$RowRuns" "firstColumns" "[I" u2 := pr2.ext E4
  have f9 : Fld Z h4 o "com/example/sagasu/sagasu/Grid$RowRuns" "lastColumns" "[I" u3 := pr3.ext E4
  have f10 : Fld Z h4 o "com/example/sagasu/sagasu/Grid$RowRuns" "size" "I" (.int w) := pr4.ext E4
  have z11 : n0 ≤ h4.size := Nat.le_trans Z0 E4.1
  have kp12 : Keep h0 h4 [o] := kp0.ext E4
  have f13 : own_Ar Z h4 b4 .int 64 (own_I (fun _ => (0 : Int32))) := A4
  obtain ⟨T14, h14, X14, e14, W14, st14⟩ := putF X4 hx hZ hown (host := "") (Or.inl (hw _ (List.mem_of_getElem? (i := 25) rfl))) Via.refl e4 f7 f6 (Or.inl (hw _ (List.mem_of_getElem? (i := 26) rfl))) (hw _ (List.mem_of_getElem? (i := 16) rfl)) (ty := (.array .int)) (by decide) rfl rfl (g := (mkF m 9 #[.val (.ref o)] [(.ref b4), (.ref o)])) rfl rfl (own_hb hby d5_9)
  refine own_Go.of (S' := (T14.setTop (mkF m 12 #[.val (.ref o)] []))) st14 ?_
  have f15 : Exa Z h14 o "com/example/sagasu/sagasu/Grid$RowRuns" := f6.wr W14
  have f16 : Fld Z h14 o "com/example/sagasu/sagasu/Grid$RowRuns" "firstColumns" "[I" u2 := f8.other W14 (Or.inr (slot_ne (Or.inl (hw _ (List.mem_of_getElem? (i := 28) rfl))) (Or.inl (hw _ (List.mem_of_getElem? (i := 26) rfl))) (by decide) (t := (.array .int)) (t' := (.array .int)) (by decide) (by decide)))
  have f17 : Fld Z h14 o "com/example/sagasu/sagasu/Grid$RowRuns" "lastColumns" "[I" u3 := f9.other W14 (Or.inr (slot_ne (Or.inl (hw _ (List.mem_of_getElem? (i := 30) rfl))) (Or.inl (hw _ (List.mem_of_getElem? (i := 26) rfl))) (by decide) (t := (.array .int)) (t' := (.array .int)) (by decide) (by decide)))
  have f18 : Fld Z h14 o "com/example/sagasu/sagasu/Grid$RowRuns" "size" "I" (.int w) := f10.other W14 (Or.inr (slot_ne (Or.inl (hw _ (List.mem_of_getElem? (i := 37) rfl))) (Or.inl (hw _ (List.mem_of_getElem? (i := 26) rfl))) (by decide) (t := .int) (t' := (.array .int)) (by decide) (by decide)))
  have f19 : own_Ar Z h14 b4 .int 64 (own_I (fun _ => (0 : Int32))) := f13.other W14 (Ne.symm ne5)
  have z20 : n0 ≤ h14.size := Nat.le_trans z11 (Keep.of_wr W14).1
  have kp21 : Keep h0 h14 [o] := kp12.wr W14 (Or.inl (List.mem_of_getElem? (i := 0) rfl))
  have f22 : Fld Z h14 o "com/example/sagasu/sagasu/Grid$RowRuns" "rows" "[I" (.ref b4) := f7.same W14
  have N14 := Fr.snoc X14 N0 pr5
  refine own_Go.of (S' := (T14.setTop (mkF m 15 #[.val (.ref o)] [(.int (64 : Int32)), (.ref o)]))) (fun t kt => ?_) ?_
  · show Steps p.tables e below (T14.setTop (mkF m 12 #[.val (.ref o)] [])) _
    refine XS.aloadN X14.here hx rfl (own_hb hby d5_12) rfl rfl ?_
    show Steps p.tables e below (T14.setTop (mkF m 13 #[.val (.ref o)] [(.ref o)])) _
    refine XS.bipush X14.here hx rfl (own_hb hby d5_13) ?_
    exact kt
  obtain ⟨T23, h23, X23, e23, E23, A23, st23⟩ := own_newP X14 hx hZ (hw _ (List.mem_of_getElem? (i := 24) rfl)) e14 (g := (mkF m 15 #[.val (.ref o)] [(.int (64 : Int32)), (.ref o)])) rfl (own_hb hby d5_15) rfl (n := 64) (cap := 64) rfl (by decide) (by decide) (by decide) (by decide)
  obtain ⟨b23, g23⟩ : ∃ z, z = h14.size := ⟨_, rfl⟩
  rw [← g23] at A23 st23
  have gx23 : n0 ≤ b23 := Nat.le_trans z20 (Nat.le_of_eq g23.symm)
  have ne24 : o ≠ b23 := Nat.ne_of_lt (Nat.lt_of_lt_of_le f15.lt (Nat.le_of_eq g23.symm))
  have ne25 : b4 ≠ b23 := Nat.ne_of_lt (Nat.lt_of_lt_of_le f19.lt (Nat.le_of_eq g23.symm))
  have sz23 : h0.size ≤ b23 := Nat.le_trans kp21.1 (Nat.le_of_eq g23.symm)
  refine own_Go.of (S' := (T23.setTop (mkF m 17 #[.val (.ref o)] [(.ref b23), (.ref o)]))) st23 ?_
  have f26 : Exa Z h23 o "com/example/sagasu/sagasu/Grid$RowRuns" := f15.ext E23
  have f27 : Fld Z h23 o "com/example/sagasu/sagasu/Grid$RowRuns" "rows" "[I" (.ref b4) := f22.ext E23
  have f28 : Fld Z h23 o "com/example/sagasu/sagasu/Grid$RowRuns" "firstColumns" "[I" u2 := f16.ext E23
  have f29 : Fld Z h23 o "com/example/sagasu/sagasu/Grid$RowRuns" "lastColumns" "[I" u3 := f17.ext E23
  have f30 : Fld Z h23 o "com/example/sagasu/sagasu/Grid$RowRuns" "size" "I" (.int w) := f18.ext E23
  have f31 : own_Ar Z h23 b4 .int 64 (own_I (fun _ => (0 : Int32))) := f19.ext E23
  have z32 : n0 ≤ h23.size := Nat.le_trans z20 E23.1
  have kp33 : Keep h0 h23 [o] := kp21.ext E23
  have f34 : own_Ar Z h23 b23 .int 64 (own_I (fun _ => (0 : Int32))) := A23
  obtain ⟨T35, h35, X35, e35, W35, st35⟩ := putF X23 hx hZ hown (host := "") (Or.inl (hw _ (List.mem_of_getElem? (i := 27) rfl))) Via.refl e23 f28 f26 (Or.inl (hw _ (List.mem_of_getElem? (i := 28) rfl))) (hw _ (List.mem_of_getElem? (i := 16) rfl)) (ty := (.array .int)) (by decide) rfl rfl (g := (mkF m 17 #[.val (.ref o)] [(.ref b23), (.ref o)])) rfl rfl (own_hb hby d5_17)
  refine own_Go.of (S' := (T35.setTop (mkF m 20 #[.val (.ref o)] []))) st35 ?_
  have f36 : Exa Z h35 o "com/example/sagasu/sagasu/Grid$RowRuns" := f26.wr W35
  have f37 : Fld Z h35 o "com/example/sagasu/sagasu/Grid$RowRuns" "rows" "[I" (.ref b4) := f27.other W35 (Or.inr (slot_ne (Or.inl (hw _ (List.mem_of_getElem? (i := 26) rfl))) (Or.inl (hw _ (List.mem_of_getElem? (i := 28) rfl))) (by decide) (t := (.array .int)) (t' := (.array .int)) (by decide) (by decide)))
  have f38 : Fld Z h35 o "com/example/sagasu/sagasu/Grid$RowRuns" "lastColumns" "[I" u3 := f29.other W35 (Or.inr (slot_ne (Or.inl (hw _ (List.mem_of_getElem? (i := 30) rfl))) (Or.inl (hw _ (List.mem_of_getElem? (i := 28) rfl))) (by decide) (t := (.array .int)) (t' := (.array .int)) (by decide) (by decide)))
  have f39 : Fld Z h35 o "com/example/sagasu/sagasu/Grid$RowRuns" "size" "I" (.int w) := f30.other W35 (Or.inr (slot_ne (Or.inl (hw _ (List.mem_of_getElem? (i := 37) rfl))) (Or.inl (hw _ (List.mem_of_getElem? (i := 28) rfl))) (by decide) (t := .int) (t' := (.array .int)) (by decide) (by decide)))
  have f40 : own_Ar Z h35 b4 .int 64 (own_I (fun _ => (0 : Int32))) := f31.other W35 (Ne.symm ne5)
  have f41 : own_Ar Z h35 b23 .int 64 (own_I (fun _ => (0 : Int32))) := f34.other W35 (Ne.symm ne24)
  have z42 : n0 ≤ h35.size := Nat.le_trans z32 (Keep.of_wr W35).1
  have kp43 : Keep h0 h35 [o] := kp33.wr W35 (Or.inl (List.mem_of_getElem? (i := 0) rfl))
  have f44 : Fld Z h35 o "com/example/sagasu/sagasu/Grid$RowRuns" "firstColumns" "[I" (.ref b23) := f28.same W35
  have N35 := Fr.snoc X35 N14 pr5
  refine own_Go.of (S' := (T35.setTop (mkF m 23 #[.val (.ref o)] [(.int (64 : Int32)), (.ref o)]))) (fun t kt => ?_) ?_
  · show Steps p.tables e below (T35.setTop (mkF m 20 #[.val (.ref o)] [])) _
    refine XS.aloadN X35.here hx rfl (own_hb hby d5_20) rfl rfl ?_
    show Steps p.tables e below (T35.setTop (mkF m 21 #[.val (.ref o)] [(.ref o)])) _
    refine XS.bipush X35.here hx rfl (own_hb hby d5_21) ?_
    exact kt
  obtain ⟨T45, h45, X45, e45, E45, A45, st45⟩ := own_newP X35 hx hZ (hw _ (List.mem_of_getElem? (i := 24) rfl)) e35 (g := (mkF m 23 #[.val (.ref o)] [(.int (64 : Int32)), (.ref o)])) rfl (own_hb hby d5_23) rfl (n := 64) (cap := 64) rfl (by decide) (by decide) (by decide) (by decide)
  obtain ⟨b45, g45⟩ : ∃ z, z = h35.size := ⟨_, rfl⟩
  rw [← g45] at A45 st45
  have gx45 : n0 ≤ b45 := Nat.le_trans z42 (Nat.le_of_eq g45.symm)
  have ne46 : o ≠ b45 := Nat.ne_of_lt (Nat.lt_of_lt_of_le f36.lt (Nat.le_of_eq g45.symm))
  have ne47 : b4 ≠ b45 := Nat.ne_of_lt (Nat.lt_of_lt_of_le f40.lt (Nat.le_of_eq g45.symm))
  have ne48 : b23 ≠ b45 := Nat.ne_of_lt (Nat.lt_of_lt_of_le f41.lt (Nat.le_of_eq g45.symm))
  have sz45 : h0.size ≤ b45 := Nat.le_trans kp43.1 (Nat.le_of_eq g45.symm)
  refine own_Go.of (S' := (T45.setTop (mkF m 25 #[.val (.ref o)] [(.ref b45), (.ref o)]))) st45 ?_
  have f49 : Exa Z h45 o "com/example/sagasu/sagasu/Grid$RowRuns" := f36.ext E45
  have f50 : Fld Z h45 o "com/example/sagasu/sagasu/Grid$RowRuns" "rows" "[I" (.ref b4) := f37.ext E45
  have f51 : Fld Z h45 o "com/example/sagasu/sagasu/Grid$RowRuns" "firstColumns" "[I" (.ref b23) := f44.ext E45
  have f52 : Fld Z h45 o "com/example/sagasu/sagasu/Grid$RowRuns" "lastColumns" "[I" u3 := f38.ext E45
  have f53 : Fld Z h45 o "com/example/sagasu/sagasu/Grid$RowRuns" "size" "I" (.int w) := f39.ext E45
  have f54 : own_Ar Z h45 b4 .int 64 (own_I (fun _ => (0 : Int32))) := f40.ext E45
  have f55 : own_Ar Z h45 b23 .int 64 (own_I (fun _ => (0 : Int32))) := f41.ext E45
  have z56 : n0 ≤ h45.size := Nat.le_trans z42 E45.1
  have kp57 : Keep h0 h45 [o] := kp43.ext E45
  have f58 : own_Ar Z h45 b45 .int 64 (own_I (fun _ => (0 : Int32))) := A45
  obtain ⟨T59, h59, X59, e59, W59, st59⟩ := putF X45 hx hZ hown (host := "") (Or.inl (hw _ (List.mem_of_getElem? (i := 29) rfl))) Via.refl e45 f52 f49 (Or.inl (hw _ (List.mem_of_getElem? (i := 30) rfl))) (hw _ (List.mem_of_getElem? (i := 16) rfl)) (ty := (.array .int)) (by decide) rfl rfl (g := (mkF m 25 #[.val (.ref o)] [(.ref b45), (.ref o)])) rfl rfl (own_hb hby d5_25)
  refine own_Go.of (S' := (T59.setTop (mkF m 28 #[.val (.ref o)] []))) st59 ?_
  have f60 : Exa Z h59 o "com/example/sagasu/sagasu/Grid$RowRuns" := f49.wr W59
  have f61 : Fld Z h59 o "com/example/sagasu/sagasu/Grid$RowRuns" "rows" "[I" (.ref b4) := f50.other W59 (Or.inr (slot_ne (Or.inl (hw _ (List.mem_of_getElem? (i := 26) rfl))) (Or.inl (hw _ (List.mem_of_getElem? (i := 30) rfl))) (by decide) (t := (.array .int)) (t' := (.array .int)) (by decide) (by decide)))
  have f62 : Fld Z h59 o "com/example/sagasu/sagasu/Grid$RowRuns" "firstColumns" "[I" (.ref b23) := f51.other W59 (Or.inr (slot_ne (Or.inl (hw _ (List.mem_of_getElem? (i := 28) rfl))) (Or.inl (hw _ (List.mem_of_getElem? (i := 30) rfl))) (by decide) (t := (.array .int)) (t' := (.array .int)) (by decide) (by decide)))
  have f63 : Fld Z h59 o "com/example/sagasu/sagasu/Grid$RowRuns" "size" "I" (.int w) := f53.other W59 (Or.inr (slot_ne (Or.inl (hw _ (List.mem_of_getElem? (i := 37) rfl))) (Or.inl (hw _ (List.mem_of_getElem? (i := 30) rfl))) (by decide) (t := .int) (t' := (.array .int)) (by decide) (by decide)))
  have f64 : own_Ar Z h59 b4 .int 64 (own_I (fun _ => (0 : Int32))) := f54.other W59 (Ne.symm ne5)
  have f65 : own_Ar Z h59 b23 .int 64 (own_I (fun _ => (0 : Int32))) := f55.other W59 (Ne.symm ne24)
  have f66 : own_Ar Z h59 b45 .int 64 (own_I (fun _ => (0 : Int32))) := f58.other W59 (Ne.symm ne46)
  have z67 : n0 ≤ h59.size := Nat.le_trans z56 (Keep.of_wr W59).1
  have kp68 : Keep h0 h59 [o] := kp57.wr W59 (Or.inl (List.mem_of_getElem? (i := 0) rfl))
  have f69 : Fld Z h59 o "com/example/sagasu/sagasu/Grid$RowRuns" "lastColumns" "[I" (.ref b45) := f52.same W59
  have N59 := Fr.snoc X59 N35 pr5
  exact own_retV X59 hx hlk hret (own_hb hby d5_28) e59 ⟨b4, b23, b45, rfl, N59, kp68, sz4, sz23, sz45, ne25, ne47, ne48, f60, f61, f62, f69, f63, f64, f65, f66⟩ (by decide) (by decide)
theorem d7_0 : decode prog_17_method_2_code 0 = .ok (.aload_n 0, 1) := by decide +kernel
theorem d7_1 : decode prog_17_method_2_code 1 = .ok (.getfield 19, 3) := by decide +kernel
theorem d7_4 : decode prog_17_method_2_code 4 = .ok (.aload_n 0, 1) := by decide +kernel
theorem d7_5 : decode prog_17_method_2_code 5 = .ok (.getfield 7, 3) := by decide +kernel
theorem d7_8 : decode prog_17_method_2_code 8 = .ok (.arraylength, 1) := by decide +kernel
theorem d7_9 : decode prog_17_method_2_code 9 = .ok (.if_icmp .ne 60, 3) := by decide +kernel
theorem d7_12 : decode prog_17_method_2_code 12 = .ok (.ldc2_w 23, 3) := by decide +kernel
theorem d7_15 : decode prog_17_method_2_code 15 = .ok (.aload_n 0, 1) := by decide +kernel
theorem d7_16 : decode prog_17_method_2_code 16 = .ok (.getfield 19, 3) := by decide +kernel
theorem d7_19 : decode prog_17_method_2_code 19 = .ok (.i2l, 1) := by decide +kernel
theorem d7_20 : decode prog_17_method_2_code 20 = .ok (.lmul, 1) := by decide +kernel
theorem d7_21 : decode prog_17_method_2_code 21 = .ok (.ldc2_w 27, 3) := by decide +kernel
theorem d7_24 : decode prog_17_method_2_code 24 = .ok (.invokestatic 29, 3) := by decide +kernel
theorem d7_27 : decode prog_17_method_2_code 27 = .ok (.l2i, 1) := by decide +kernel
theorem d7_28 : decode prog_17_method_2_code 28 = .ok (.istore 4, 2) := by decide +kernel
theorem d7_30 : decode prog_17_method_2_code 30 = .ok (.aload_n 0, 1) := by decide +kernel
theorem d7_31 : decode prog_17_method_2_code 31 = .ok (.aload_n 0, 1) := by decide +kernel
theorem d7_32 : decode prog_17_method_2_code 32 = .ok (.getfield 7, 3) := by decide +kernel
theorem d7_35 : decode prog_17_method_2_code 35 = .ok (.iload 4, 2) := by decide +kernel
theorem d7_37 : decode prog_17_method_2_code 37 = .ok (.invokestatic 35, 3) := by decide +kernel
theorem d7_40 : decode prog_17_method_2_code 40 = .ok (.putfield 7, 3) := by decide +kernel
theorem d7_43 : decode prog_17_method_2_code 43 = .ok (.aload_n 0, 1) := by decide +kernel
theorem d7_44 : decode prog_17_method_2_code 44 = .ok (.aload_n 0, 1) := by decide +kernel
theorem d7_45 : decode prog_17_method_2_code 45 = .ok (.getfield 13, 3) := by decide +kernel
theorem d7_48 : decode prog_17_method_2_code 48 = .ok (.iload 4, 2) := by decide +kernel
theorem d7_50 : decode prog_17_method_2_code 50 = .ok (.invokestatic 35, 3) := by decide +kernel
theorem d7_53 : decode prog_17_method_2_code 53 = .ok (.putfield 13, 3) := by decide +kernel
theorem d7_56 : decode prog_17_method_2_code 56 = .ok (.aload_n 0, 1) := by decide +kernel
theorem d7_57 : decode prog_17_method_2_code 57 = .ok (.aload_n 0, 1) := by decide +kernel
theorem d7_58 : decode prog_17_method_2_code 58 = .ok (.getfield 16, 3) := by decide +kernel
theorem d7_61 : decode prog_17_method_2_code 61 = .ok (.iload 4, 2) := by decide +kernel
theorem d7_63 : decode prog_17_method_2_code 63 = .ok (.invokestatic 35, 3) := by decide +kernel
theorem d7_66 : decode prog_17_method_2_code 66 = .ok (.putfield 16, 3) := by decide +kernel
theorem d7_69 : decode prog_17_method_2_code 69 = .ok (.aload_n 0, 1) := by decide +kernel
theorem d7_70 : decode prog_17_method_2_code 70 = .ok (.getfield 7, 3) := by decide +kernel
theorem d7_73 : decode prog_17_method_2_code 73 = .ok (.aload_n 0, 1) := by decide +kernel
theorem d7_74 : decode prog_17_method_2_code 74 = .ok (.getfield 19, 3) := by decide +kernel
theorem d7_77 : decode prog_17_method_2_code 77 = .ok (.iload_n 1, 1) := by decide +kernel
theorem d7_78 : decode prog_17_method_2_code 78 = .ok (.iastore, 1) := by decide +kernel
theorem d7_79 : decode prog_17_method_2_code 79 = .ok (.aload_n 0, 1) := by decide +kernel
theorem d7_80 : decode prog_17_method_2_code 80 = .ok (.getfield 13, 3) := by decide +kernel
theorem d7_83 : decode prog_17_method_2_code 83 = .ok (.aload_n 0, 1) := by decide +kernel
theorem d7_84 : decode prog_17_method_2_code 84 = .ok (.getfield 19, 3) := by decide +kernel
theorem d7_87 : decode prog_17_method_2_code 87 = .ok (.iload_n 2, 1) := by decide +kernel
theorem d7_88 : decode prog_17_method_2_code 88 = .ok (.iastore, 1) := by decide +kernel
theorem d7_89 : decode prog_17_method_2_code 89 = .ok (.aload_n 0, 1) := by decide +kernel
theorem d7_90 : decode prog_17_method_2_code 90 = .ok (.getfield 16, 3) := by decide +kernel
theorem d7_93 : decode prog_17_method_2_code 93 = .ok (.aload_n 0, 1) := by decide +kernel
theorem d7_94 : decode prog_17_method_2_code 94 = .ok (.getfield 19, 3) := by decide +kernel
theorem d7_97 : decode prog_17_method_2_code 97 = .ok (.iload_n 3, 1) := by decide +kernel
theorem d7_98 : decode prog_17_method_2_code 98 = .ok (.iastore, 1) := by decide +kernel
theorem d7_99 : decode prog_17_method_2_code 99 = .ok (.aload_n 0, 1) := by decide +kernel
theorem d7_100 : decode prog_17_method_2_code 100 = .ok (.dup, 1) := by decide +kernel
theorem d7_101 : decode prog_17_method_2_code 101 = .ok (.getfield 19, 3) := by decide +kernel
theorem d7_104 : decode prog_17_method_2_code 104 = .ok (.iconst 1, 1) := by decide +kernel
theorem d7_105 : decode prog_17_method_2_code 105 = .ok (.iadd, 1) := by decide +kernel
theorem d7_106 : decode prog_17_method_2_code 106 = .ok (.putfield 19, 3) := by decide +kernel
theorem d7_109 : decode prog_17_method_2_code 109 = .ok (.return_, 1) := by decide +kernel
theorem pn_7 : plainName "com/example/sagasu/sagasu/Grid$RowRuns" = true := by first | (simp [plainName, overriddenIn]; done) | decide +kernel
def Q_rm7 (Z : State) (o : Addr) (i1 : Int32) (i2 : Int32) (i3 : Int32) (r1 : Addr) (r2 : Addr) (r3 : Addr) (k : Nat) (g1 : Nat → Int32) (g2 : Nat → Int32) (g3 : Nat → Int32) (h0 : Heap) (n0 : Nat) (v : Option Value) (h : Heap) (L : List Loc) : Prop := v = none ∧ Fr n0 L ∧ Keep h0 h [o, r1, r2, r3] ∧ (Exa Z h o "com/example/sagasu/sagasu/Grid$RowRuns") ∧ (Fld Z h o "com/example/sagasu/sagasu/Grid$RowRuns" "rows" "[I" (.ref r1)) ∧ (Fld Z h o "com/example/sagasu/sagasu/Grid$RowRuns" "firstColumns" "[I" (.ref r2)) ∧ (Fld Z h o "com/example/sagasu/sagasu/Grid$RowRuns" "lastColumns" "[I" (.ref r3)) ∧ (Fld Z h o "com/example/sagasu/sagasu/Grid$RowRuns" "size" "I" (.int (Int32.ofNat (k + 1)))) ∧ (own_Ar Z h r1 .int 64 (own_I (own_set g1 k i1))) ∧ (own_Ar Z h r2 .int 64 (own_I (own_set g2 k i2))) ∧ (own_Ar Z h r3 .int 64 (own_I (own_set g3 k i3)))
set_option maxRecDepth 65536 in
set_option maxHeartbeats 40000000 in
theorem rm7 (l : Launch) (Z : State) (a0 : Array Value) (hw : ∀ d ∈ tables_1, d.before a0 Z = true) (ws : List Jvm.Cond) (o : Addr) (i1 : Int32) (i2 : Int32) (i3 : Int32) (r1 : Addr) (r2 : Addr) (r3 : Addr) (k : Nat) (g1 : Nat → Int32) (g2 : Nat → Int32) (g3 : Nat → Int32) (h0 : Heap) (n0 : Nat) (Z0 : n0 ≤ h0.size) (pr0 : Exa Z h0 o "com/example/sagasu/sagasu/Grid$RowRuns") (pr1 : Fld Z h0 o "com/example/sagasu/sagasu/Grid$RowRuns" "rows" "[I" (.ref r1)) (pr2 : Fld Z h0 o "com/example/sagasu/sagasu/Grid$RowRuns" "firstColumns" "[I" (.ref r2)) (pr3 : Fld Z h0 o "com/example/sagasu/sagasu/Grid$RowRuns" "lastColumns" "[I" (.ref r3)) (pr4 : Fld Z h0 o "com/example/sagasu/sagasu/Grid$RowRuns" "size" "I" (.int (Int32.ofNat k))) (pr5 : own_Ar Z h0 r1 .int 64 (own_I g1)) (pr6 : own_Ar Z h0 r2 .int 64 (own_I g2)) (pr7 : own_Ar Z h0 r3 .int 64 (own_I g3)) (pr8 : n0 ≤ o) (pr9 : n0 ≤ r1) (pr10 : n0 ≤ r2) (pr11 : n0 ≤ r3) (pr12 : r1 ≠ r2) (pr13 : r1 ≠ r3) (pr14 : r2 ≠ r3) (pr15 : o ≠ r1) (pr16 : o ≠ r2) (pr17 : o ≠ r3) (hk : k < 64) :
    own_Met l Z h0 (⟨"com/example/sagasu/sagasu/Grid$RowRuns", "add", "(III)V"⟩ : MethodName) prog_17_method_2_code 5 none ws ({ frames := 0, cells := 0, slots := 0, locals := 0 } : Room) #[(.ref o), (.int i1), (.int i2), (.int i3)] (Q_rm7 Z o i1 i2 i3 r1 r2 r3 k g1 g2 g3 h0 n0) := by
  refine own_enter (plainFor_of_name pn_7) ?_
  intro p e s m below meth c T0 X0 hx hby hml hret hlk hown hnm hZ e0
  have N0 := Fr.nil n0
  have kp0 : Keep h0 h0 [o, r1, r2, r3] := Keep.refl h0 _
  rw [show entryFrame m #[(.ref o), (.int i1), (.int i2), (.int i3)] 5 = (mkF m 0 #[.val (.ref o), .val (.int i1), .val (.int i2), .val (.int i3), .unset] []) from by first | (simp [entryFrame, mkF, argsToLocals, Value.category]; done) | rfl]
  refine own_Go.of (S' := (T0.setTop (mkF m 1 #[.val (.ref o), .val (.int i1), .val (.int i2), .val (.int i3), .unset] [(.ref o)]))) (fun t kt => ?_) ?_
  · show Steps p.tables e below (T0.setTop (mkF m 0 #[.val (.ref o), .val (.int i1), .val (.int i2), .val (.int i3), .unset] [])) _
    refine XS.aloadN X0.here hx rfl (own_hb hby d7_0) rfl rfl ?_
    exact kt
  obtain ⟨T70, X70, e70, st70⟩ := getF X0 hx hZ hown (host := "") (Or.inl (hw _ (List.mem_of_getElem? (i := 36) rfl))) Via.refl e0 pr4 (g := (mkF m 1 #[.val (.ref o), .val (.int i1), .val (.int i2), .val (.int i3), .unset] [(.ref o)])) rfl rfl (own_hb hby d7_1)
  refine own_Go.of (S' := (T70.setTop (mkF m 4 #[.val (.ref o), .val (.int i1), .val (.int i2), .val (.int i3), .unset] [(.int (Int32.ofNat k))]))) st70 ?_
  refine own_Go.of (S' := (T70.setTop (mkF m 5 #[.val (.ref o), .val (.int i1), .val (.int i2), .val (.int i3), .unset] [(.ref o), (.int (Int32.ofNat k))]))) (fun t kt => ?_) ?_
  · show Steps p.tables e below (T70.setTop (mkF m 4 #[.val (.ref o), .val (.int i1), .val (.int i2), .val (.int i3), .unset] [(.int (Int32.ofNat k))])) _
    refine XS.aloadN X70.here hx rfl (own_hb hby d7_4) rfl rfl ?_
    exact kt
  obtain ⟨T71, X71, e71, st71⟩ := getF X70 hx hZ hown (host := "") (Or.inl (hw _ (List.mem_of_getElem? (i := 25) rfl))) Via.refl e70 pr1 (g := (mkF m 5 #[.val (.ref o), .val (.int i1), .val (.int i2), .val (.int i3), .unset] [(.ref o), (.int (Int32.ofNat k))])) rfl rfl (own_hb hby d7_5)
  refine own_Go.of (S' := (T71.setTop (mkF m 8 #[.val (.ref o), .val (.int i1), .val (.int i2), .val (.int i3), .unset] [(.ref r1), (.int (Int32.ofNat k))]))) st71 ?_
  obtain ⟨cl72, Ar72, hln72⟩ := own_Ar.len pr5
  refine own_Go.of (S' := (T71.setTop (mkF m 70 #[.val (.ref o), .val (.int i1), .val (.int i2), .val (.int i3), .unset] [(.ref o)]))) (fun t kt => ?_) ?_
  · show Steps p.tables e below (T71.setTop (mkF m 8 #[.val (.ref o), .val (.int i1), .val (.int i2), .val (.int i3), .unset] [(.ref r1), (.int (Int32.ofNat k))])) _
    refine X71.arraylength hx (by rw [e71]; exact Ar72.1) (State.isArrayOf_alike hZ.alike Ar72.2.1) (g := (mkF m 8 #[.val (.ref o), .val (.int i1), .val (.int i2), .val (.int i3), .unset] [(.ref r1), (.int (Int32.ofNat k))])) rfl rfl (own_hb hby d7_8) _ ?_
    rw [hln72]
    show Steps p.tables e below (T71.setTop (mkF m 9 #[.val (.ref o), .val (.int i1), .val (.int i2), .val (.int i3), .unset] [(.int (64 : Int32)), (.int (Int32.ofNat k))])) _
    refine XS.icmpYes X71.here hx rfl (pc0 := 9) (pc' := 69) rfl (own_hb hby d7_9) rfl (feq (fun q => by have h2 := (own_eqN (a := k) (b := 64) (by omega) (by decide)).mp q; omega)).2 (by decide) (by decide) ?_
    show Steps p.tables e below (T71.setTop (mkF m 69 #[.val (.ref o), .val (.int i1), .val (.int i2), .val (.int i3), .unset] [])) _
    refine XS.aloadN X71.here hx rfl (own_hb hby d7_69) rfl rfl ?_
    exact kt
  obtain ⟨T73, X73, e73, st73⟩ := getF X71 hx hZ hown (host := "") (Or.inl (hw _ (List.mem_of_getElem? (i := 25) rfl))) Via.refl e71 pr1 (g := (mkF m 70 #[.val (.ref o), .val (.int i1), .val (.int i2), .val (.int i3), .unset] [(.ref o)])) rfl rfl (own_hb hby d7_70)
  refine own_Go.of (S' := (T73.setTop (mkF m 73 #[.val (.ref o), .val (.int i1), .val (.int i2), .val (.int i3), .unset] [(.ref r1)]))) st73 ?_
  refine own_Go.of (S' := (T73.setTop (mkF m 74 #[.val (.ref o), .val (.int i1), .val (.int i2), .val (.int i3), .unset] [(.ref o), (.ref r1)]))) (fun t kt => ?_) ?_
  · show Steps p.tables e below (T73.setTop (mkF m 73 #[.val (.ref o), .val (.int i1), .val (.int i2), .val (.int i3), .unset] [(.ref r1)])) _
    refine XS.aloadN X73.here hx rfl (own_hb hby d7_73) rfl rfl ?_
    exact kt
  obtain ⟨T74, X74, e74, st74⟩ := getF X73 hx hZ hown (host := "") (Or.inl (hw _ (List.mem_of_getElem? (i := 36) rfl))) Via.refl e73 pr4 (g := (mkF m 74 #[.val (.ref o), .val (.int i1), .val (.int i2), .val (.int i3), .unset] [(.ref o), (.ref r1)])) rfl rfl (own_hb hby d7_74)
  refine own_Go.of (S' := (T74.setTop (mkF m 77 #[.val (.ref o), .val (.int i1), .val (.int i2), .val (.int i3), .unset] [(.int (Int32.ofNat k)), (.ref r1)]))) st74 ?_
  refine own_Go.of (S' := (T74.setTop (mkF m 78 #[.val (.ref o), .val (.int i1), .val (.int i2), .val (.int i3), .unset] [(.int i1), (.int (Int32.ofNat k)), (.ref r1)]))) (fun t kt => ?_) ?_
  · show Steps p.tables e below (T74.setTop (mkF m 77 #[.val (.ref o), .val (.int i1), .val (.int i2), .val (.int i3), .unset] [(.int (Int32.ofNat k)), (.ref r1)])) _
    refine XS.iloadN X74.here hx rfl (own_hb hby d7_77) rfl ?_
    exact kt
  obtain ⟨cl75, Ar75, hin75, ub75⟩ := own_Ar.put (j := (Int32.ofNat k)) (k := k) pr5 ⟨rfl, hk⟩
  obtain ⟨T75, h75, X75, e75, W75, st75⟩ := stI X74 hx hZ e74 Ar75 (j := (Int32.ofNat k)) hin75 (g := (mkF m 78 #[.val (.ref o), .val (.int i1), .val (.int i2), .val (.int i3), .unset] [(.int i1), (.int (Int32.ofNat k)), (.ref r1)])) rfl rfl (own_hb hby d7_78)
  refine own_Go.of (S' := (T75.setTop (mkF m 79 #[.val (.ref o), .val (.int i1), .val (.int i2), .val (.int i3), .unset] []))) st75 ?_
  have f76 : Exa Z h75 o "com/example/sagasu/sagasu/Grid$RowRuns" := pr0.wr W75
  have f77 : Fld Z h75 o "com/example/sagasu/sagasu/Grid$RowRuns" "rows" "[I" (.ref r1) := pr1.other W75 (Or.inl pr15)
  have f78 : Fld Z h75 o "com/example/sagasu/sagasu/Grid$RowRuns" "firstColumns" "[I" (.ref r2) := pr2.other W75 (Or.inl pr15)
  have f79 : Fld Z h75 o "com/example/sagasu/sagasu/Grid$RowRuns" "lastColumns" "[I" (.ref r3) := pr3.other W75 (Or.inl pr15)
  have f80 : Fld Z h75 o "com/example/sagasu/sagasu/Grid$RowRuns" "size" "I" (.int (Int32.ofNat k)) := pr4.other W75 (Or.inl pr15)
  have f81 : own_Ar Z h75 r2 .int 64 (own_I g2) := pr6.other W75 (Ne.symm pr12)
  have f82 : own_Ar Z h75 r3 .int 64 (own_I g3) := pr7.other W75 (Ne.symm pr13)
  have z83 : n0 ≤ h75.size := Nat.le_trans Z0 (Keep.of_wr W75).1
  have kp84 : Keep h0 h75 [o, r1, r2, r3] := kp0.wr W75 (Or.inl (List.mem_of_getElem? (i := 1) rfl))
  have f85 : own_Ar Z h75 r1 .int 64 (own_I (own_set g1 k i1)) := by rw [← own_upI]; exact ub75 rfl W75
  have N75 := Fr.snoc X75 N0 pr9
  refine own_Go.of (S' := (T75.setTop (mkF m 80 #[.val (.ref o), .val (.int i1), .val (.int i2), .val (.int i3), .unset] [(.ref o)]))) (fun t kt => ?_) ?_
  · show Steps p.tables e below (T75.setTop (mkF m 79 #[.val (.ref o), .val (.int i1), .val (.int i2), .val (.int i3), .unset] [])) _
    refine XS.aloadN X75.here hx rfl (own_hb hby d7_79) rfl rfl ?_
    exact kt
  obtain ⟨T86, X86, e86, st86⟩ := getF X75 hx hZ hown (host := "") (Or.inl (hw _ (List.mem_of_getElem? (i := 27) rfl))) Via.refl e75 f78 (g := (mkF m 80 #[.val (.ref o), .val (.int i1), .val (.int i2), .val (.int i3), .unset] [(.ref o)])) rfl rfl (own_hb hby d7_80)
  refine own_Go.of (S' := (T86.setTop (mkF m 83 #[.val (.ref o), .val (.int i1), .val (.int i2), .val (.int i3), .unset] [(.ref r2)]))) st86 ?_
  refine own_Go.of (S' := (T86.setTop (mkF m 84 #[.val (.ref o), .val (.int i1), .val (.int i2), .val (.int i3), .unset] [(.ref o), (.ref r2)]))) (fun t kt => ?_) ?_
  · show Steps p.tables e below (T86.setTop (mkF m 83 #[.val (.ref o), .val (.int i1), .val (.int i2), .val (.int i3), .unset] [(.ref r2)])) _
    refine XS.aloadN X86.here hx rfl (own_hb hby d7_83) rfl rfl ?_
    exact kt
  obtain ⟨T87, X87, e87, st87⟩ := getF X86 hx hZ hown (host := "") (Or.inl (hw _ (List.mem_of_getElem? (i := 36) rfl))) Via.refl e86 f80 (g := (mkF m 84 #[.val (.ref o), .val (.int i1), .val (.int i2), .val (.int i3), .unset] [(.ref o), (.ref r2)])) rfl rfl (own_hb hby d7_84)
  refine own_Go.of (S' := (T87.setTop (mkF m 87 #[.val (.ref o), .val (.int i1), .val (.int i2), .val (.int i3), .unset] [(.int (Int32.ofNat k)), (.ref r2)]))) st87 ?_
  refine own_Go.of (S' := (T87.setTop (mkF m 88 #[.val (.ref o), .val (.int i1), .val (.int i2), .val (.int i3), .unset] [(.int i2), (.int (Int32.ofNat k)), (.ref r2)]))) (fun t kt => ?_) ?_
  · show Steps p.tables e below (T87.setTop (mkF m 87 #[.val (.ref o), .val (.int i1), .val (.int i2), .val (.int i3), .unset] [(.int (Int32.ofNat k)), (.ref r2)])) _
    refine XS.iloadN X87.here hx rfl (own_hb hby d7_87) rfl ?_
    exact kt
  obtain ⟨cl88, Ar88, hin88, ub88⟩ := own_Ar.put (j := (Int32.ofNat k)) (k := k) f81 ⟨rfl, hk⟩
  obtain ⟨T88, h88, X88, e88, W88, st88⟩ := stI X87 hx hZ e87 Ar88 (j := (Int32.ofNat k)) hin88 (g := (mkF m 88 #[.val (.ref o), .val (.int i1), .val (.int i2), .val (.int i3), .unset] [(.int i2), (.int (Int32.ofNat k)), (.ref r2)])) rfl rfl (own_hb hby d7_88)
  refine own_Go.of (S' := (T88.setTop (mkF m 89 #[.val (.ref o), .val (.int i1), .val (.int i2), .val (.int i3), .unset] []))) st88 ?_
  have f89 : Exa Z h88 o "com/example/sagasu/sagasu/Grid$RowRuns" := f76.wr W88
  have f90 : Fld Z h88 o "com/example/sagasu/sagasu/Grid$RowRuns" "rows" "[I" (.ref r1) := f77.other W88 (Or.inl pr16)
  have f91 : Fld Z h88 o "com/example/sagasu/sagasu/Grid$RowRuns" "firstColumns" "[I" (.ref r2) := f78.other W88 (Or.inl pr16)
  have f92 : Fld Z h88 o "com/example/sagasu/sagasu/Grid$RowRuns" "lastColumns" "[I" (.ref r3) := f79.other W88 (Or.inl pr16)
  have f93 : Fld Z h88 o "com/example/sagasu/sagasu/Grid$RowRuns" "size" "I" (.int (Int32.ofNat k)) := f80.other W88 (Or.inl pr16)
  have f94 : own_Ar Z h88 r1 .int 64 (own_I (own_set g1 k i1)) := f85.other W88 pr12
  have f95 : own_Ar Z h88 r3 .int 64 (own_I g3) := f82.other W88 (Ne.symm pr14)
  have z96 : n0 ≤ h88.size := Nat.le_trans z83 (Keep.of_wr W88).1
  have kp97 : Keep h0 h88 [o, r1, r2, r3] := kp84.wr W88 (Or.inl (List.mem_of_getElem? (i := 2) rfl))
  have f98 : own_Ar Z h88 r2 .int 64 (own_I (own_set g2 k i2)) := by rw [← own_upI]; exact ub88 rfl W88
  have N88 := Fr.snoc X88 N75 pr10
  refine own_Go.of (S' := (T88.setTop (mkF m 90 #[.val (.ref o), .val (.int i1), .val (.int i2), .val (.int i3), .unset] [(.ref o)]))) (fun t kt => ?_) ?_
  · show Steps p.tables e below (T88.setTop (mkF m 89 #[.val (.ref o), .val (.int i1), .val (.int i2), .val (.int i3), .unset] [])) _
    refine XS.aloadN X88.here hx rfl (own_hb hby d7_89) rfl rfl ?_
    exact kt
  obtain ⟨T99, X99, e99, st99⟩ := getF X88 hx hZ hown (host := "") (Or.inl (hw _ (List.mem_of_getElem? (i := 29) rfl))) Via.refl e88 f92 (g := (mkF m 90 #[.val (.ref o), .val (.int i1), .val (.int i2), .val (.int i3), .unset] [(.ref o)])) rfl rfl (own_hb hby d7_90)
  refine own_Go.of (S' := (T99.setTop (mkF m 93 #[.val (.ref o), .val (.int i1), .val (.int i2), .val (.int i3), .unset] [(.ref r3)]))) st99 ?_
  refine own_Go.of (S' := (T99.setTop (mkF m 94 #[.val (.ref o), .val (.int i1), .val (.int i2), .val (.int i3), .unset] [(.ref o), (.ref r3)]))) (fun t kt => ?_) ?_
  · show Steps p.tables e below (T99.setTop (mkF m 93 #[.val (.ref o), .val (.int i1), .val (.int i2), .val (.int i3), .unset] [(.ref r3)])) _
    refine XS.aloadN X99.here hx rfl (own_hb hby d7_93) rfl rfl ?_
    exact kt
  obtain ⟨T100, X100, e100, st100⟩ := getF X99 hx hZ hown (host := "") (Or.inl (hw _ (List.mem_of_getElem? (i := 36) rfl))) Via.refl e99 f93 (g := (mkF m 94 #[.val (.ref o), .val (.int i1), .val (.int i2), .val (.int i3), .unset] [(.ref o), (.ref r3)])) rfl rfl (own_hb hby d7_94)
  refine own_Go.of (S' := (T100.setTop (mkF m 97 #[.val (.ref o), .val (.int i1), .val (.int i2), .val (.int i3), .unset] [(.int (Int32.ofNat k)), (.ref r3)]))) st100 ?_
  refine own_Go.of (S' := (T100.setTop (mkF m 98 #[.val (.ref o), .val (.int i1), .val (.int i2), .val (.int i3), .unset] [(.int i3), (.int (Int32.ofNat k)), (.ref r3)]))) (fun t kt => ?_) ?_
  · show Steps p.tables e below (T100.setTop (mkF m 97 #[.val (.ref o), .val (.int i1), .val (.int i2), .val (.int i3), .unset] [(.int (Int32.ofNat k)), (.ref r3)])) _
    refine XS.iloadN X100.here hx rfl (own_hb hby d7_97) rfl ?_
    exact kt
  obtain ⟨cl101, Ar101, hin101, ub101⟩ := own_Ar.put (j := (Int32.ofNat k)) (k := k) f95 ⟨rfl, hk⟩
  obtain ⟨T101, h101, X101, e101, W101, st101⟩ := stI X100 hx hZ e100 Ar101 (j := (Int32.ofNat k)) hin101 (g := (mkF m 98 #[.val (.ref o), .val (.int i1), .val (.int i2), .val (.int i3), .unset] [(.int i3), (.int (Int32.ofNat k)), (.ref r3)])) rfl rfl (own_hb hby d7_98)
  refine own_Go.of (S' := (T101.setTop (mkF m 99 #[.val (.ref o), .val (.int i1), .val (.int i2), .val (.int i3), .unset] []))) st101 ?_
  have f102 : Exa Z h101 o "com/example/sagasu/sagasu/Grid$RowRuns" := f89.wr W101
  have f103 : Fld Z h101 o "com/example/sagasu/sagasu/Grid$RowRuns" "rows" "[I" (.ref r1) := f90.other W101 (Or.inl pr17)
  have f104 : Fld Z h101 o "com/example/sagasu/sagasu/Grid$RowRuns" "firstColumns" "[I" (.ref r2) := f91.other W101 (Or.inl pr17)
  have f105 : Fld Z h101 o "com/example/sagasu/sagasu/Grid$RowRuns" "lastColumns" "[I" (.ref r3) := f92.other W101 (Or.inl pr17)
  have f106 : Fld Z h101 o "com/example/sagasu/sagasu/Grid$RowRuns" "size" "I" (.int (Int32.ofNat k)) := f93.other W101 (Or.inl pr17)
  have f107 : own_Ar Z h101 r1 .int 64 (own_I (own_set g1 k i1)) := f94.other W101 pr13
  have f108 : own_Ar Z h101 r2 .int 64 (own_I (own_set g2 k i2)) := f98.other W101 pr14
  have z109 : n0 ≤ h101.size := Nat.le_trans z96 (Keep.of_wr W101).1
  have kp110 : Keep h0 h101 [o, r1, r2, r3] := kp97.wr W101 (Or.inl (List.mem_of_getElem? (i := 3) rfl))
  have f111 : own_Ar Z h101 r3 .int 64 (own_I (own_set g3 k i3)) := by rw [← own_upI]; exact ub101 rfl W101
  have N101 := Fr.snoc X101 N88 pr11
  refine own_Go.of (S' := (T101.setTop (mkF m 101 #[.val (.ref o), .val (.int i1), .val (.int i2), .val (.int i3), .unset] [(.ref o), (.ref o)]))) (fun t kt => ?_) ?_
  · show Steps p.tables e below (T101.setTop (mkF m 99 #[.val (.ref o), .val (.int i1), .val (.int i2), .val (.int i3), .unset] [])) _
    refine XS.aloadN X101.here hx rfl (own_hb hby d7_99) rfl rfl ?_
    show Steps p.tables e below (T101.setTop (mkF m 100 #[.val (.ref o), .val (.int i1), .val (.int i2), .val (.int i3), .unset] [(.ref o)])) _
    refine XS.dup X101.here hx rfl (own_hb hby d7_100) rfl rfl ?_
    exact kt
  obtain ⟨T112, X112, e112, st112⟩ := getF X101 hx hZ hown (host := "") (Or.inl (hw _ (List.mem_of_getElem? (i := 36) rfl))) Via.refl e101 f106 (g := (mkF m 101 #[.val (.ref o), .val (.int i1), .val (.int i2), .val (.int i3), .unset] [(.ref o), (.ref o)])) rfl rfl (own_hb hby d7_101)
  refine own_Go.of (S' := (T112.setTop (mkF m 104 #[.val (.ref o), .val (.int i1), .val (.int i2), .val (.int i3), .unset] [(.int (Int32.ofNat k)), (.ref o)]))) st112 ?_
  refine own_Go.of (S' := (T112.setTop (mkF m 106 #[.val (.ref o), .val (.int i1), .val (.int i2), .val (.int i3), .unset] [(.int (Int32.ofNat (k + 1))), (.ref o)]))) (fun t kt => ?_) ?_
  · show Steps p.tables e below (T112.setTop (mkF m 104 #[.val (.ref o), .val (.int i1), .val (.int i2), .val (.int i3), .unset] [(.int (Int32.ofNat k)), (.ref o)])) _
    refine XS.iconst X112.here hx rfl (own_hb hby d7_104) ?_
    show Steps p.tables e below (T112.setTop (mkF m 105 #[.val (.ref o), .val (.int i1), .val (.int i2), .val (.int i3), .unset] [(.int (1 : Int32)), (.int (Int32.ofNat k)), (.ref o)])) _
    refine XS.iadd X112.here hx rfl (own_hb hby d7_105) rfl ?_
    show Steps p.tables e below (T112.setTop (mkF m 106 #[.val (.ref o), .val (.int i1), .val (.int i2), .val (.int i3), .unset] [(.int ((Int32.ofNat k) + (1 : Int32))), (.ref o)])) _
    rw [show Int32.ofNat k + (1 : Int32) = Int32.ofNat (k + 1) from own_addN k 1]
    exact kt
  obtain ⟨T113, h113, X113, e113, W113, st113⟩ := putF X112 hx hZ hown (host := "") (Or.inl (hw _ (List.mem_of_getElem? (i := 36) rfl))) Via.refl e112 f106 f102 (Or.inl (hw _ (List.mem_of_getElem? (i := 37) rfl))) (hw _ (List.mem_of_getElem? (i := 16) rfl)) (ty := .int) (by decide) rfl rfl (g := (mkF m 106 #[.val (.ref o), .val (.int i1), .val (.int i2), .val (.int i3), .unset] [(.int (Int32.ofNat (k + 1))), (.ref o)])) rfl rfl (own_hb hby d7_106)
  refine own_Go.of (S' := (T113.setTop (mkF m 109 #[.val (.ref o), .val (.int i1), .val (.int i2), .val (.int i3), .unset] []))) st113 ?_
  have f114 : Exa Z h113 o "com/example/sagasu/sagasu/Grid$RowRuns" := f102.wr W113
  have f115 : Fld Z h113 o "com/example/sagasu/sagasu/Grid$RowRuns" "rows" "[I" (.ref r1) := f103.other W113 (Or.inr (slot_ne (Or.inl (hw _ (List.mem_of_getElem? (i := 26) rfl))) (Or.inl (hw _ (List.mem_of_getElem? (i := 37) rfl))) (by decide) (t := (.array .int)) (t' := .int) (by decide) (by decide)))
  have f116 : Fld Z h113 o "com/example/sagasu/sagasu/Grid$RowRuns" "firstColumns" "[I" (.ref r2) := f104.other W113 (Or.inr (slot_ne (Or.inl (hw _ (List.mem_of_getElem? (i := 28) rfl))) (Or.inl (hw _ (List.mem_of_getElem? (i := 37) rfl))) (by decide) (t := (.array .int)) (t' := .int) (by decide) (by decide)))
  have f117 : Fld Z h113 o "com/example/sagasu/sagasu/Grid$RowRuns" "lastColumns" "[I" (.ref r3) := f105.other W113 (Or.inr (slot_ne (Or.inl (hw _ (List.mem_of_getElem? (i := 30) rfl))) (Or.inl (hw _ (List.mem_of_getElem? (i := 37) rfl))) (by decide) (t := (.array .int)) (t' := .int) (by decide) (by decide)))
  have f118 : own_Ar Z h113 r1 .int 64 (own_I (own_set g1 k i1)) := f107.other W113 (Ne.symm pr15)
  have f119 : own_Ar Z h113 r2 .int 64 (own_I (own_set g2 k i2)) := f108.other W113 (Ne.symm pr16)
  have f120 : own_Ar Z h113 r3 .int 64 (own_I (own_set g3 k i3)) := f111.other W113 (Ne.symm pr17)
  have z121 : n0 ≤ h113.size := Nat.le_trans z109 (Keep.of_wr W113).1
  have kp122 : Keep h0 h113 [o, r1, r2, r3] := kp110.wr W113 (Or.inl (List.mem_of_getElem? (i := 0) rfl))
  have f123 : Fld Z h113 o "com/example/sagasu/sagasu/Grid$RowRuns" "size" "I" (.int (Int32.ofNat (k + 1))) := f106.same W113
  have N113 := Fr.snoc X113 N101 pr8
  exact own_retV X113 hx hlk hret (own_hb hby d7_109) e113 ⟨rfl, N113, kp122, f114, f115, f116, f117, f123, f118, f119, f120⟩ (by decide) (by decide)
def Q_rm8 (Z : State) (o : Addr) (a : Nat) (b : Nat) (r2 : Addr) (r3 : Addr) (g2 : Nat → Int32) (g3 : Nat → Int32) (h0 : Heap) (n0 : Nat) (v : Option Value) (h : Heap) (L : List Loc) : Prop := v = some (.long (own_cs g3 g2 a (b - a))) ∧ Fr n0 L ∧ h = h0
theorem d8_0 : decode prog_17_method_5_code 0 = .ok (.lconst 0, 1) := by decide +kernel
theorem d8_1 : decode prog_17_method_5_code 1 = .ok (.lstore_n 3, 1) := by decide +kernel
theorem d8_2 : decode prog_17_method_5_code 2 = .ok (.iload_n 1, 1) := by decide +kernel
theorem d8_3 : decode prog_17_method_5_code 3 = .ok (.istore 5, 2) := by decide +kernel
theorem d8_5 : decode prog_17_method_5_code 5 = .ok (.iload 5, 2) := by decide +kernel
theorem d8_7 : decode prog_17_method_5_code 7 = .ok (.iload_n 2, 1) := by decide +kernel
theorem d8_8 : decode prog_17_method_5_code 8 = .ok (.if_icmp .ge 30, 3) := by decide +kernel
theorem d8_11 : decode prog_17_method_5_code 11 = .ok (.lload_n 3, 1) := by decide +kernel
theorem d8_12 : decode prog_17_method_5_code 12 = .ok (.aload_n 0, 1) := by decide +kernel
theorem d8_13 : decode prog_17_method_5_code 13 = .ok (.getfield 16, 3) := by decide +kernel
theorem d8_16 : decode prog_17_method_5_code 16 = .ok (.iload 5, 2) := by decide +kernel
theorem d8_18 : decode prog_17_method_5_code 18 = .ok (.iaload, 1) := by decide +kernel
theorem d8_19 : decode prog_17_method_5_code 19 = .ok (.aload_n 0, 1) := by decide +kernel
theorem d8_20 : decode prog_17_method_5_code 20 = .ok (.getfield 13, 3) := by decide +kernel
theorem d8_23 : decode prog_17_method_5_code 23 = .ok (.iload 5, 2) := by decide +kernel
theorem d8_25 : decode prog_17_method_5_code 25 = .ok (.iaload, 1) := by decide +kernel
theorem d8_26 : decode prog_17_method_5_code 26 = .ok (.isub, 1) := by decide +kernel
theorem d8_27 : decode prog_17_method_5_code 27 = .ok (.iconst 1, 1) := by decide +kernel
theorem d8_28 : decode prog_17_method_5_code 28 = .ok (.iadd, 1) := by decide +kernel
theorem d8_29 : decode prog_17_method_5_code 29 = .ok (.i2l, 1) := by decide +kernel
theorem d8_30 : decode prog_17_method_5_code 30 = .ok (.ladd, 1) := by decide +kernel
theorem d8_31 : decode prog_17_method_5_code 31 = .ok (.lstore_n 3, 1) := by decide +kernel
theorem d8_32 : decode prog_17_method_5_code 32 = .ok (.iinc 5 1, 3) := by decide +kernel
theorem d8_35 : decode prog_17_method_5_code 35 = .ok (.goto (-30), 3) := by decide +kernel
theorem d8_38 : decode prog_17_method_5_code 38 = .ok (.lload_n 3, 1) := by decide +kernel
theorem d8_39 : decode prog_17_method_5_code 39 = .ok (.lreturn, 1) := by decide +kernel
theorem pn_8 : plainName "com/example/sagasu/sagasu/Grid$RowRuns" = true := by first | (simp [plainName, overriddenIn]; done) | decide +kernel
set_option maxRecDepth 65536 in
set_option maxHeartbeats 40000000 in
theorem loop8 {p : Program} {l : Launch} {e : Env} {s : State} {m : MethodId} {below : List Frame} {meth : Method} {c : Code} {Z : State} {a0 : Array Value} (hw : ∀ d ∈ tables_1, d.before a0 Z = true) (hx : p.tables.exec = Jvm.exec) (hZ : Z.Warmed39 s.vm) (hby : c.code = prog_17_method_5_code) (hml : c.maxLocals = 6) (hret : meth.sig.returnType = some .long) (hlk : meth.locks = false) (hown : s.vm.findClass "com/example/sagasu/sagasu/Grid$RowRuns" = some m.cls) (hnm : meth.name = "cells") (o : Addr) (a : Nat) (b : Nat) (r2 : Addr) (r3 : Addr) (g2 : Nat → Int32) (g3 : Nat → Int32) (h0 : Heap) (n0 : Nat)  (hab : a ≤ b) (hb : b ≤ 3) :
    ∀ (k : Nat) (i : Nat) {T1 : State} {h1 : Heap} {locs : List Loc}, Stand p l e ({ frames := 0, cells := 0, slots := 0, locals := 0 } : Room) s m #[(.ref o), (.int (Int32.ofNat a)), (.int (Int32.ofNat b))] below meth c T1 locs 0 0 → T1.heap = h1 → Fr n0 locs → n0 ≤ h1.size → (i + k = b) → (a ≤ i) → (Fld Z h1 o "com/example/sagasu/sagasu/Grid$RowRuns" "firstColumns" "[I" (.ref r2)) → (Fld Z h1 o "com/example/sagasu/sagasu/Grid$RowRuns" "lastColumns" "[I" (.ref r3)) → (own_Ar Z h1 r2 .int 64 (own_I g2)) → (own_Ar Z h1 r3 .int 64 (own_I g3)) → (h1 = h0) → 
    own_Go p e below (T1.setTop (mkF m 5 #[.val (.ref o), .val (.int (Int32.ofNat a)), .val (.int (Int32.ofNat b)), .val (.long (own_cs g3 g2 a (i - a))), .second, .val (.int (Int32.ofNat i))] [])) (own_End s (Q_rm8 Z o a b r2 r3 g2 g3 h0 n0) ({ frames := 0, cells := 0, slots := 0, locals := 0 } : Room).cells ({ frames := 0, cells := 0, slots := 0, locals := 0 } : Room).slots) := by
  intro k
  induction k with
  | zero =>
    intro i T1 h1 locs X1 e1 N1 Z1 hik hai pr2 pr3 pr4 pr5 hh
    refine own_Go.of (S' := (T1.setTop (mkF m 39 #[.val (.ref o), .val (.int (Int32.ofNat a)), .val (.int (Int32.ofNat b)), .val (.long (own_cs g3 g2 a (i - a))), .second, .val (.int (Int32.ofNat i))] [(.long (own_cs g3 g2 a (i - a)))]))) (fun t kt => ?_) ?_
    · show Steps p.tables e below (T1.setTop (mkF m 5 #[.val (.ref o), .val (.int (Int32.ofNat a)), .val (.int (Int32.ofNat b)), .val (.long (own_cs g3 g2 a (i - a))), .second, .val (.int (Int32.ofNat i))] [])) _
      refine XS.iload X1.here hx rfl (own_hb hby d8_5) rfl ?_
      show Steps p.tables e below (T1.setTop (mkF m 7 #[.val (.ref o), .val (.int (Int32.ofNat a)), .val (.int (Int32.ofNat b)), .val (.long (own_cs g3 g2 a (i - a))), .second, .val (.int (Int32.ofNat i))] [(.int (Int32.ofNat i))])) _
      refine XS.iloadN X1.here hx rfl (own_hb hby d8_7) rfl ?_
      show Steps p.tables e below (T1.setTop (mkF m 8 #[.val (.ref o), .val (.int (Int32.ofNat a)), .val (.int (Int32.ofNat b)), .val (.long (own_cs g3 g2 a (i - a))), .second, .val (.int (Int32.ofNat i))] [(.int (Int32.ofNat b)), (.int (Int32.ofNat i))])) _
      refine XS.icmpYes X1.here hx rfl (pc0 := 8) (pc' := 38) rfl (own_hb hby d8_8) rfl (flt (fun q => by have h2 := (own_ltN (by omega) (by omega)).mp q; omega)).2.1 (by decide) (by decide) ?_
      show Steps p.tables e below (T1.setTop (mkF m 38 #[.val (.ref o), .val (.int (Int32.ofNat a)), .val (.int (Int32.ofNat b)), .val (.long (own_cs g3 g2 a (i - a))), .second, .val (.int (Int32.ofNat i))] [])) _
      refine XS.lloadN X1.here hx rfl (own_hb hby d8_38) rfl ?_
      exact kt
    exact own_retJ X1 hx hlk hret (own_hb hby d8_39) e1 ⟨by rw [show i = b by omega], N1, hh⟩ (by decide) (by decide)
  | succ k ih =>
    intro i T1 h1 locs X1 e1 N1 Z1 hik hai pr2 pr3 pr4 pr5 hh
    refine own_Go.of (S' := (T1.setTop (mkF m 13 #[.val (.ref o), .val (.int (Int32.ofNat a)), .val (.int (Int32.ofNat b)), .val (.long (own_cs g3 g2 a (i - a))), .second, .val (.int (Int32.ofNat i))] [(.ref o), (.long (own_cs g3 g2 a (i - a)))]))) (fun t kt => ?_) ?_
    · show Steps p.tables e below (T1.setTop (mkF m 5 #[.val (.ref o), .val (.int (Int32.ofNat a)), .val (.int (Int32.ofNat b)), .val (.long (own_cs g3 g2 a (i - a))), .second, .val (.int (Int32.ofNat i))] [])) _
      refine XS.iload X1.here hx rfl (own_hb hby d8_5) rfl ?_
      show Steps p.tables e below (T1.setTop (mkF m 7 #[.val (.ref o), .val (.int (Int32.ofNat a)), .val (.int (Int32.ofNat b)), .val (.long (own_cs g3 g2 a (i - a))), .second, .val (.int (Int32.ofNat i))] [(.int (Int32.ofNat i))])) _
      refine XS.iloadN X1.here hx rfl (own_hb hby d8_7) rfl ?_
      show Steps p.tables e below (T1.setTop (mkF m 8 #[.val (.ref o), .val (.int (Int32.ofNat a)), .val (.int (Int32.ofNat b)), .val (.long (own_cs g3 g2 a (i - a))), .second, .val (.int (Int32.ofNat i))] [(.int (Int32.ofNat b)), (.int (Int32.ofNat i))])) _
      refine XS.icmpNo X1.here hx rfl (own_hb hby d8_8) rfl (tlt ((own_ltN (by omega) (by omega)).mpr (by omega))).2.1 ?_
      show Steps p.tables e below (T1.setTop (mkF m 11 #[.val (.ref o), .val (.int (Int32.ofNat a)), .val (.int (Int32.ofNat b)), .val (.long (own_cs g3 g2 a (i - a))), .second, .val (.int (Int32.ofNat i))] [])) _
      refine XS.lloadN X1.here hx rfl (own_hb hby d8_11) rfl ?_
      show Steps p.tables e below (T1.setTop (mkF m 12 #[.val (.ref o), .val (.int (Int32.ofNat a)), .val (.int (Int32.ofNat b)), .val (.long (own_cs g3 g2 a (i - a))), .second, .val (.int (Int32.ofNat i))] [(.long (own_cs g3 g2 a (i - a)))])) _
      refine XS.aloadN X1.here hx rfl (own_hb hby d8_12) rfl rfl ?_
      exact kt
    obtain ⟨T124, X124, e124, st124⟩ := getF X1 hx hZ hown (host := "") (Or.inl (hw _ (List.mem_of_getElem? (i := 29) rfl))) Via.refl e1 pr3 (g := (mkF m 13 #[.val (.ref o), .val (.int (Int32.ofNat a)), .val (.int (Int32.ofNat b)), .val (.long (own_cs g3 g2 a (i - a))), .second, .val (.int (Int32.ofNat i))] [(.ref o), (.long (own_cs g3 g2 a (i - a)))])) rfl rfl (own_hb hby d8_13)
    refine own_Go.of (S' := (T124.setTop (mkF m 16 #[.val (.ref o), .val (.int (Int32.ofNat a)), .val (.int (Int32.ofNat b)), .val (.long (own_cs g3 g2 a (i - a))), .second, .val (.int (Int32.ofNat i))] [(.ref r3), (.long (own_cs g3 g2 a (i - a)))]))) st124 ?_
    refine own_Go.of (S' := (T124.setTop (mkF m 18 #[.val (.ref o), .val (.int (Int32.ofNat a)), .val (.int (Int32.ofNat b)), .val (.long (own_cs g3 g2 a (i - a))), .second, .val (.int (Int32.ofNat i))] [(.int (Int32.ofNat i)), (.ref r3), (.long (own_cs g3 g2 a (i - a)))]))) (fun t kt => ?_) ?_
    · show Steps p.tables e below (T124.setTop (mkF m 16 #[.val (.ref o), .val (.int (Int32.ofNat a)), .val (.int (Int32.ofNat b)), .val (.long (own_cs g3 g2 a (i - a))), .second, .val (.int (Int32.ofNat i))] [(.ref r3), (.long (own_cs g3 g2 a (i - a)))])) _
      refine XS.iload X124.here hx rfl (own_hb hby d8_16) rfl ?_
      exact kt
    obtain ⟨cl125, Ar125, hin125, hat125⟩ := own_Ar.get (j := (Int32.ofNat i)) (k := i) pr5 ⟨rfl, by omega⟩
    refine own_Go.of (S' := (T124.setTop (mkF m 20 #[.val (.ref o), .val (.int (Int32.ofNat a)), .val (.int (Int32.ofNat b)), .val (.long (own_cs g3 g2 a (i - a))), .second, .val (.int (Int32.ofNat i))] [(.ref o), (.int (g3 i)), (.long (own_cs g3 g2 a (i - a)))]))) (fun t kt => ?_) ?_
    · show Steps p.tables e below (T124.setTop (mkF m 18 #[.val (.ref o), .val (.int (Int32.ofNat a)), .val (.int (Int32.ofNat b)), .val (.long (own_cs g3 g2 a (i - a))), .second, .val (.int (Int32.ofNat i))] [(.int (Int32.ofNat i)), (.ref r3), (.long (own_cs g3 g2 a (i - a)))])) _
      refine X124.iaload hx (j := (Int32.ofNat i)) (v := (.int (g3 i))) (by rw [e124]; exact Ar125.1) (State.isArrayOf_alike hZ.alike Ar125.2.1) Ar125.2.2 hin125 hat125 (g := (mkF m 18 #[.val (.ref o), .val (.int (Int32.ofNat a)), .val (.int (Int32.ofNat b)), .val (.long (own_cs g3 g2 a (i - a))), .second, .val (.int (Int32.ofNat i))] [(.int (Int32.ofNat i)), (.ref r3), (.long (own_cs g3 g2 a (i - a)))])) rfl rfl (own_hb hby d8_18) _ ?_
      show Steps p.tables e below (T124.setTop (mkF m 19 #[.val (.ref o), .val (.int (Int32.ofNat a)), .val (.int (Int32.ofNat b)), .val (.long (own_cs g3 g2 a (i - a))), .second, .val (.int (Int32.ofNat i))] [(.int (g3 i)), (.long (own_cs g3 g2 a (i - a)))])) _
      refine XS.aloadN X124.here hx rfl (own_hb hby d8_19) rfl rfl ?_
      exact kt
    obtain ⟨T126, X126, e126, st126⟩ := getF X124 hx hZ hown (host := "") (Or.inl (hw _ (List.mem_of_getElem? (i := 27) rfl))) Via.refl e124 pr2 (g := (mkF m 20 #[.val (.ref o), .val (.int (Int32.ofNat a)), .val (.int (Int32.ofNat b)), .val (.long (own_cs g3 g2 a (i - a))), .second, .val (.int (Int32.ofNat i))] [(.ref o), (.int (g3 i)), (.long (own_cs g3 g2 a (i - a)))])) rfl rfl (own_hb hby d8_20)
    refine own_Go.of (S' := (T126.setTop (mkF m 23 #[.val (.ref o), .val (.int (Int32.ofNat a)), .val (.int (Int32.ofNat b)), .val (.long (own_cs g3 g2 a (i - a))), .second, .val (.int (Int32.ofNat i))] [(.ref r2), (.int (g3 i)), (.long (own_cs g3 g2 a (i - a)))]))) st126 ?_
    refine own_Go.of (S' := (T126.setTop (mkF m 25 #[.val (.ref o), .val (.int (Int32.ofNat a)), .val (.int (Int32.ofNat b)), .val (.long (own_cs g3 g2 a (i - a))), .second, .val (.int (Int32.ofNat i))] [(.int (Int32.ofNat i)), (.ref r2), (.int (g3 i)), (.long (own_cs g3 g2 a (i - a)))]))) (fun t kt => ?_) ?_
    · show Steps p.tables e below (T126.setTop (mkF m 23 #[.val (.ref o), .val (.int (Int32.ofNat a)), .val (.int (Int32.ofNat b)), .val (.long (own_cs g3 g2 a (i - a))), .second, .val (.int (Int32.ofNat i))] [(.ref r2), (.int (g3 i)), (.long (own_cs g3 g2 a (i - a)))])) _
      refine XS.iload X126.here hx rfl (own_hb hby d8_23) rfl ?_
      exact kt
    obtain ⟨cl127, Ar127, hin127, hat127⟩ := own_Ar.get (j := (Int32.ofNat i)) (k := i) pr4 ⟨rfl, by omega⟩
    refine own_Go.of (S' := (T126.setTop (mkF m 5 #[.val (.ref o), .val (.int (Int32.ofNat a)), .val (.int (Int32.ofNat b)), .val (.long (own_cs g3 g2 a (i + 1 - a))), .second, .val (.int ((Int32.ofNat i) + (1 : Int32)))] []))) (fun t kt => ?_) ?_
    · show Steps p.tables e below (T126.setTop (mkF m 25 #[.val (.ref o), .val (.int (Int32.ofNat a)), .val (.int (Int32.ofNat b)), .val (.long (own_cs g3 g2 a (i - a))), .second, .val (.int (Int32.ofNat i))] [(.int (Int32.ofNat i)), (.ref r2), (.int (g3 i)), (.long (own_cs g3 g2 a (i - a)))])) _
      refine X126.iaload hx (j := (Int32.ofNat i)) (v := (.int (g2 i))) (by rw [e126]; exact Ar127.1) (State.isArrayOf_alike hZ.alike Ar127.2.1) Ar127.2.2 hin127 hat127 (g := (mkF m 25 #[.val (.ref o), .val (.int (Int32.ofNat a)), .val (.int (Int32.ofNat b)), .val (.long (own_cs g3 g2 a (i - a))), .second, .val (.int (Int32.ofNat i))] [(.int (Int32.ofNat i)), (.ref r2), (.int (g3 i)), (.long (own_cs g3 g2 a (i - a)))])) rfl rfl (own_hb hby d8_25) _ ?_
      show Steps p.tables e below (T126.setTop (mkF m 26 #[.val (.ref o), .val (.int (Int32.ofNat a)), .val (.int (Int32.ofNat b)), .val (.long (own_cs g3 g2 a (i - a))), .second, .val (.int (Int32.ofNat i))] [(.int (g2 i)), (.int (g3 i)), (.long (own_cs g3 g2 a (i - a)))])) _
      refine XS.isub X126.here hx rfl (own_hb hby d8_26) rfl ?_
      show Steps p.tables e below (T126.setTop (mkF m 27 #[.val (.ref o), .val (.int (Int32.ofNat a)), .val (.int (Int32.ofNat b)), .val (.long (own_cs g3 g2 a (i - a))), .second, .val (.int (Int32.ofNat i))] [(.int ((g3 i) - (g2 i))), (.long (own_cs g3 g2 a (i - a)))])) _
      refine XS.iconst X126.here hx rfl (own_hb hby d8_27) ?_
      show Steps p.tables e below (T126.setTop (mkF m 28 #[.val (.ref o), .val (.int (Int32.ofNat a)), .val (.int (Int32.ofNat b)), .val (.long (own_cs g3 g2 a (i - a))), .second, .val (.int (Int32.ofNat i))] [(.int (1 : Int32)), (.int ((g3 i) - (g2 i))), (.long (own_cs g3 g2 a (i - a)))])) _
      refine XS.iadd X126.here hx rfl (own_hb hby d8_28) rfl ?_
      show Steps p.tables e below (T126.setTop (mkF m 29 #[.val (.ref o), .val (.int (Int32.ofNat a)), .val (.int (Int32.ofNat b)), .val (.long (own_cs g3 g2 a (i - a))), .second, .val (.int (Int32.ofNat i))] [(.int (((g3 i) - (g2 i)) + (1 : Int32))), (.long (own_cs g3 g2 a (i - a)))])) _
      refine XS.i2l X126.here hx rfl (own_hb hby d8_29) rfl ?_
      show Steps p.tables e below (T126.setTop (mkF m 30 #[.val (.ref o), .val (.int (Int32.ofNat a)), .val (.int (Int32.ofNat b)), .val (.long (own_cs g3 g2 a (i - a))), .second, .val (.int (Int32.ofNat i))] [(.long ((((g3 i) - (g2 i)) + (1 : Int32)).toInt64)), (.long (own_cs g3 g2 a (i - a)))])) _
      refine XS.ladd X126.here hx rfl (own_hb hby d8_30) rfl ?_
      show Steps p.tables e below (T126.setTop (mkF m 31 #[.val (.ref o), .val (.int (Int32.ofNat a)), .val (.int (Int32.ofNat b)), .val (.long (own_cs g3 g2 a (i - a))), .second, .val (.int (Int32.ofNat i))] [(.long ((own_cs g3 g2 a (i - a)) + ((((g3 i) - (g2 i)) + (1 : Int32)).toInt64)))])) _
      rw [show (own_cs g3 g2 a (i - a)) + ((((g3 i) - (g2 i)) + (1 : Int32)).toInt64) = own_cs g3 g2 a (i + 1 - a) from by rw [show i + 1 - a = (i - a) + 1 by omega]; show _ = own_cs g3 g2 a (i - a) + ((g3 (a + (i - a)) - g2 (a + (i - a))) + (1 : Int32)).toInt64; rw [show a + (i - a) = i by omega]]
      show Steps p.tables e below (T126.setTop (mkF m 31 #[.val (.ref o), .val (.int (Int32.ofNat a)), .val (.int (Int32.ofNat b)), .val (.long (own_cs g3 g2 a (i - a))), .second, .val (.int (Int32.ofNat i))] [(.long (own_cs g3 g2 a (i + 1 - a)))])) _
      refine XS.lstoreN X126.here hx rfl (own_hb hby d8_31) rfl (l' := #[.val (.ref o), .val (.int (Int32.ofNat a)), .val (.int (Int32.ofNat b)), .val (.long (own_cs g3 g2 a (i + 1 - a))), .second, .val (.int (Int32.ofNat i))]) rfl ?_
      show Steps p.tables e below (T126.setTop (mkF m 32 #[.val (.ref o), .val (.int (Int32.ofNat a)), .val (.int (Int32.ofNat b)), .val (.long (own_cs g3 g2 a (i + 1 - a))), .second, .val (.int (Int32.ofNat i))] [])) _
      refine XS.iinc X126.here hx rfl (own_hb hby d8_32) rfl (l' := #[.val (.ref o), .val (.int (Int32.ofNat a)), .val (.int (Int32.ofNat b)), .val (.long (own_cs g3 g2 a (i + 1 - a))), .second, .val (.int ((Int32.ofNat i) + (1 : Int32)))]) rfl ?_
      show Steps p.tables e below (T126.setTop (mkF m 35 #[.val (.ref o), .val (.int (Int32.ofNat a)), .val (.int (Int32.ofNat b)), .val (.long (own_cs g3 g2 a (i + 1 - a))), .second, .val (.int ((Int32.ofNat i) + (1 : Int32)))] [])) _
      refine XS.goto X126.here hx rfl (pc0 := 35) (pc' := 5) rfl (own_hb hby d8_35) (by decide) (by decide) ?_
      exact kt
    refine own_Go.of (S' := (T126.setTop (mkF m 5 #[.val (.ref o), .val (.int (Int32.ofNat a)), .val (.int (Int32.ofNat b)), .val (.long (own_cs g3 g2 a (i + 1 - a))), .second, .val (.int (Int32.ofNat (i + 1)))] []))) (fun t kt => ?_) ?_
    · show Steps p.tables e below (T126.setTop (mkF m 5 #[.val (.ref o), .val (.int (Int32.ofNat a)), .val (.int (Int32.ofNat b)), .val (.long (own_cs g3 g2 a (i + 1 - a))), .second, .val (.int ((Int32.ofNat i) + (1 : Int32)))] [])) _
      rw [show Int32.ofNat i + (1 : Int32) = Int32.ofNat (i + 1) from own_addN i 1]
      exact kt
    exact ih (i + 1) X126 e126 N1 Z1 (by omega) (by omega) pr2 pr3 pr4 pr5 hh
set_option maxRecDepth 65536 in
set_option maxHeartbeats 40000000 in
theorem rm8 (l : Launch) (Z : State) (a0 : Array Value) (hw : ∀ d ∈ tables_1, d.before a0 Z = true) (ws : List Jvm.Cond) (o : Addr) (a : Nat) (b : Nat) (r2 : Addr) (r3 : Addr) (g2 : Nat → Int32) (g3 : Nat → Int32) (h0 : Heap) (n0 : Nat) (Z0 : n0 ≤ h0.size) (pr0 : Fld Z h0 o "com/example/sagasu/sagasu/Grid$RowRuns" "firstColumns" "[I" (.ref r2)) (pr1 : Fld Z h0 o "com/example/sagasu/sagasu/Grid$RowRuns" "lastColumns" "[I" (.ref r3)) (pr2 : own_Ar Z h0 r2 .int 64 (own_I g2)) (pr3 : own_Ar Z h0 r3 .int 64 (own_I g3)) (hab : a ≤ b) (hb : b ≤ 3) :
    own_Met l Z h0 (⟨"com/example/sagasu/sagasu/Grid$RowRuns", "cells", "(II)J"⟩ : MethodName) prog_17_method_5_code 6 (some .long) ws ({ frames := 0, cells := 0, slots := 0, locals := 0 } : Room) #[(.ref o), (.int (Int32.ofNat a)), (.int (Int32.ofNat b))] (Q_rm8 Z o a b r2 r3 g2 g3 h0 n0) := by
  refine own_enter (plainFor_of_name pn_8) ?_
  intro p e s m below meth c T0 X0 hx hby hml hret hlk hown hnm hZ e0
  have N0 := Fr.nil n0
  rw [show entryFrame m #[(.ref o), (.int (Int32.ofNat a)), (.int (Int32.ofNat b))] 6 = (mkF m 0 #[.val (.ref o), .val (.int (Int32.ofNat a)), .val (.int (Int32.ofNat b)), .unset, .unset, .unset] []) from by first | (simp [entryFrame, mkF, argsToLocals, Value.category]; done) | rfl]
  refine own_Go.of (S' := (T0.setTop (mkF m 5 #[.val (.ref o), .val (.int (Int32.ofNat a)), .val (.int (Int32.ofNat b)), .val (.long (0 : Int64)), .second, .val (.int (Int32.ofNat a))] []))) (fun t kt => ?_) ?_
  · show Steps p.tables e below (T0.setTop (mkF m 0 #[.val (.ref o), .val (.int (Int32.ofNat a)), .val (.int (Int32.ofNat b)), .unset, .unset, .unset] [])) _
    refine XS.lconst X0.here hx rfl (own_hb hby d8_0) ?_
    show Steps p.tables e below (T0.setTop (mkF m 1 #[.val (.ref o), .val (.int (Int32.ofNat a)), .val (.int (Int32.ofNat b)), .unset, .unset, .unset] [(.long (0 : Int64))])) _
    refine XS.lstoreN X0.here hx rfl (own_hb hby d8_1) rfl (l' := #[.val (.ref o), .val (.int (Int32.ofNat a)), .val (.int (Int32.ofNat b)), .val (.long (0 : Int64)), .second, .unset]) rfl ?_
    show Steps p.tables e below (T0.setTop (mkF m 2 #[.val (.ref o), .val (.int (Int32.ofNat a)), .val (.int (Int32.ofNat b)), .val (.long (0 : Int64)), .second, .unset] [])) _
    refine XS.iloadN X0.here hx rfl (own_hb hby d8_2) rfl ?_
    show Steps p.tables e below (T0.setTop (mkF m 3 #[.val (.ref o), .val (.int (Int32.ofNat a)), .val (.int (Int32.ofNat b)), .val (.long (0 : Int64)), .second, .unset] [(.int (Int32.ofNat a))])) _
    refine XS.istore X0.here hx rfl (own_hb hby d8_3) rfl (l' := #[.val (.ref o), .val (.int (Int32.ofNat a)), .val (.int (Int32.ofNat b)), .val (.long (0 : Int64)), .second, .val (.int (Int32.ofNat a))]) rfl ?_
    exact kt
  rw [show (0 : Int64) = own_cs g3 g2 a (a - a) from by rw [Nat.sub_self]; rfl]
  exact loop8 hw hx hZ hby hml hret hlk hown hnm o a b r2 r3 g2 g3 h0 n0  hab hb (b - a) a (own_mono X0 (by decide) (by decide)) e0 N0 Z0 (by omega) (Nat.le_refl a) pr0 pr1 pr2 pr3 rfl
theorem d9_0 : decode method_4_code 0 = .ok (.iload_n 0, 1) := by decide +kernel
theorem d9_1 : decode method_4_code 1 = .ok (.iload_n 2, 1) := by decide +kernel
theorem d9_2 : decode method_4_code 2 = .ok (.if_icmp .gt 10, 3) := by decide +kernel
theorem d9_5 : decode method_4_code 5 = .ok (.iload_n 2, 1) := by decide +kernel
theorem d9_6 : decode method_4_code 6 = .ok (.iload_n 1, 1) := by decide +kernel
theorem d9_7 : decode method_4_code 7 = .ok (.if_icmp .ge 5, 3) := by decide +kernel
theorem d9_10 : decode method_4_code 10 = .ok (.lload_n 3, 1) := by decide +kernel
theorem d9_11 : decode method_4_code 11 = .ok (.lreturn, 1) := by decide +kernel
theorem d9_12 : decode method_4_code 12 = .ok (.lconst 0, 1) := by decide +kernel
theorem d9_13 : decode method_4_code 13 = .ok (.lreturn, 1) := by decide +kernel
theorem pn_9 : plainName "com/example/sagasu/sagasu/RowRunsCellsPinLaw" = true := by first | (simp [plainName, overriddenIn]; done) | decide +kernel
def Q_rm9 (Z : State) (lo : Nat) (hi : Nat) (r : Nat) (q : Int64) (h0 : Heap) (n0 : Nat) (v : Option Value) (h : Heap) (L : List Loc) : Prop := v = some (.long (own_part lo hi r q)) ∧ Fr n0 L ∧ h = h0
set_option maxRecDepth 65536 in
set_option maxHeartbeats 40000000 in
theorem rm9 (l : Launch) (Z : State) (a0 : Array Value) (hw : ∀ d ∈ tables_1, d.before a0 Z = true) (ws : List Jvm.Cond) (lo : Nat) (hi : Nat) (r : Nat) (q : Int64) (h0 : Heap) (n0 : Nat) (Z0 : n0 ≤ h0.size) (h1 : lo ≤ 3) (h2 : hi ≤ 3) (h3 : r ≤ 3) :
    own_Met l Z h0 (⟨"com/example/sagasu/sagasu/RowRunsCellsPinLaw", "part", "(IIIJ)J"⟩ : MethodName) method_4_code 5 (some .long) ws ({ frames := 0, cells := 0, slots := 0, locals := 0 } : Room) #[(.int (Int32.ofNat lo)), (.int (Int32.ofNat hi)), (.int (Int32.ofNat r)), (.long q)] (Q_rm9 Z lo hi r q h0 n0) := by
  refine own_enter (plainFor_of_name pn_9) ?_
  intro p e s m below meth c T0 X0 hx hby hml hret hlk hown hnm hZ e0
  have N0 := Fr.nil n0
  rw [show entryFrame m #[(.int (Int32.ofNat lo)), (.int (Int32.ofNat hi)), (.int (Int32.ofNat r)), (.long q)] 5 = (mkF m 0 #[.val (.int (Int32.ofNat lo)), .val (.int (Int32.ofNat hi)), .val (.int (Int32.ofNat r)), .val (.long q), .second] []) from by first | (simp [entryFrame, mkF, argsToLocals, Value.category]; done) | rfl]
  refine own_Go.of (S' := (T0.setTop (mkF m 2 #[.val (.int (Int32.ofNat lo)), .val (.int (Int32.ofNat hi)), .val (.int (Int32.ofNat r)), .val (.long q), .second] [(.int (Int32.ofNat r)), (.int (Int32.ofNat lo))]))) (fun t kt => ?_) ?_
  · show Steps p.tables e below (T0.setTop (mkF m 0 #[.val (.int (Int32.ofNat lo)), .val (.int (Int32.ofNat hi)), .val (.int (Int32.ofNat r)), .val (.long q), .second] [])) _
    refine XS.iloadN X0.here hx rfl (own_hb hby d9_0) rfl ?_
    show Steps p.tables e below (T0.setTop (mkF m 1 #[.val (.int (Int32.ofNat lo)), .val (.int (Int32.ofNat hi)), .val (.int (Int32.ofNat r)), .val (.long q), .second] [(.int (Int32.ofNat lo))])) _
    refine XS.iloadN X0.here hx rfl (own_hb hby d9_1) rfl ?_
    exact kt
  by_cases hc2_128 : r < lo
  · skip
    refine own_Go.of (S' := (T0.setTop (mkF m 13 #[.val (.int (Int32.ofNat lo)), .val (.int (Int32.ofNat hi)), .val (.int (Int32.ofNat r)), .val (.long q), .second] [(.long (0 : Int64))]))) (fun t kt => ?_) ?_
    · show Steps p.tables e below (T0.setTop (mkF m 2 #[.val (.int (Int32.ofNat lo)), .val (.int (Int32.ofNat hi)), .val (.int (Int32.ofNat r)), .val (.long q), .second] [(.int (Int32.ofNat r)), (.int (Int32.ofNat lo))])) _
      refine XS.icmpYes X0.here hx rfl (pc0 := 2) (pc' := 12) rfl (own_hb hby d9_2) rfl (tlt ((own_ltN (by omega) (by omega)).mpr hc2_128)).2.2.1 (by decide) (by decide) ?_
      show Steps p.tables e below (T0.setTop (mkF m 12 #[.val (.int (Int32.ofNat lo)), .val (.int (Int32.ofNat hi)), .val (.int (Int32.ofNat r)), .val (.long q), .second] [])) _
      refine XS.lconst X0.here hx rfl (own_hb hby d9_12) ?_
      exact kt
    exact own_retJ X0 hx hlk hret (own_hb hby d9_13) e0 ⟨by unfold own_part; rw [if_neg (by omega)], N0, rfl⟩ (by decide) (by decide)
  · skip
    refine own_Go.of (S' := (T0.setTop (mkF m 7 #[.val (.int (Int32.ofNat lo)), .val (.int (Int32.ofNat hi)), .val (.int (Int32.ofNat r)), .val (.long q), .second] [(.int (Int32.ofNat hi)), (.int (Int32.ofNat r))]))) (fun t kt => ?_) ?_
    · show Steps p.tables e below (T0.setTop (mkF m 2 #[.val (.int (Int32.ofNat lo)), .val (.int (Int32.ofNat hi)), .val (.int (Int32.ofNat r)), .val (.long q), .second] [(.int (Int32.ofNat r)), (.int (Int32.ofNat lo))])) _
      refine XS.icmpNo X0.here hx rfl (own_hb hby d9_2) rfl (flt (fun q => hc2_128 ((own_ltN (by omega) (by omega)).mp q))).2.2.1 ?_
      show Steps p.tables e below (T0.setTop (mkF m 5 #[.val (.int (Int32.ofNat lo)), .val (.int (Int32.ofNat hi)), .val (.int (Int32.ofNat r)), .val (.long q), .second] [])) _
      refine XS.iloadN X0.here hx rfl (own_hb hby d9_5) rfl ?_
      show Steps p.tables e below (T0.setTop (mkF m 6 #[.val (.int (Int32.ofNat lo)), .val (.int (Int32.ofNat hi)), .val (.int (Int32.ofNat r)), .val (.long q), .second] [(.int (Int32.ofNat r))])) _
      refine XS.iloadN X0.here hx rfl (own_hb hby d9_6) rfl ?_
      exact kt
    by_cases hc7_129 : r < hi
    · skip
      refine own_Go.of (S' := (T0.setTop (mkF m 11 #[.val (.int (Int32.ofNat lo)), .val (.int (Int32.ofNat hi)), .val (.int (Int32.ofNat r)), .val (.long q), .second] [(.long q)]))) (fun t kt => ?_) ?_
      · show Steps p.tables e below (T0.setTop (mkF m 7 #[.val (.int (Int32.ofNat lo)), .val (.int (Int32.ofNat hi)), .val (.int (Int32.ofNat r)), .val (.long q), .second] [(.int (Int32.ofNat hi)), (.int (Int32.ofNat r))])) _
        refine XS.icmpNo X0.here hx rfl (own_hb hby d9_7) rfl (tlt ((own_ltN (by omega) (by omega)).mpr hc7_129)).2.1 ?_
        show Steps p.tables e below (T0.setTop (mkF m 10 #[.val (.int (Int32.ofNat lo)), .val (.int (Int32.ofNat hi)), .val (.int (Int32.ofNat r)), .val (.long q), .second] [])) _
        refine XS.lloadN X0.here hx rfl (own_hb hby d9_10) rfl ?_
        exact kt
      exact own_retJ X0 hx hlk hret (own_hb hby d9_11) e0 ⟨by unfold own_part; rw [if_pos ⟨by omega, hc7_129⟩], N0, rfl⟩ (by decide) (by decide)
    · skip
      refine own_Go.of (S' := (T0.setTop (mkF m 13 #[.val (.int (Int32.ofNat lo)), .val (.int (Int32.ofNat hi)), .val (.int (Int32.ofNat r)), .val (.long q), .second] [(.long (0 : Int64))]))) (fun t kt => ?_) ?_
      · show Steps p.tables e below (T0.setTop (mkF m 7 #[.val (.int (Int32.ofNat lo)), .val (.int (Int32.ofNat hi)), .val (.int (Int32.ofNat r)), .val (.long q), .second] [(.int (Int32.ofNat hi)), (.int (Int32.ofNat r))])) _
        refine XS.icmpYes X0.here hx rfl (pc0 := 7) (pc' := 12) rfl (own_hb hby d9_7) rfl (flt (fun q => hc7_129 ((own_ltN (by omega) (by omega)).mp q))).2.1 (by decide) (by decide) ?_
        show Steps p.tables e below (T0.setTop (mkF m 12 #[.val (.int (Int32.ofNat lo)), .val (.int (Int32.ofNat hi)), .val (.int (Int32.ofNat r)), .val (.long q), .second] [])) _
        refine XS.lconst X0.here hx rfl (own_hb hby d9_12) ?_
        exact kt
      exact own_retJ X0 hx hlk hret (own_hb hby d9_13) e0 ⟨by unfold own_part; rw [if_neg (by omega)], N0, rfl⟩ (by decide) (by decide)
theorem d10_0 : decode prog_17_method_3_code 0 = .ok (.aload_n 0, 1) := by decide +kernel
theorem d10_1 : decode prog_17_method_3_code 1 = .ok (.getfield 19, 3) := by decide +kernel
theorem d10_4 : decode prog_17_method_3_code 4 = .ok (.ireturn, 1) := by decide +kernel
theorem pn_10 : plainName "com/example/sagasu/sagasu/Grid$RowRuns" = true := by first | (simp [plainName, overriddenIn]; done) | decide +kernel
def Q_rm10 (Z : State) (o : Addr) (w : Int32) (h0 : Heap) (n0 : Nat) (v : Option Value) (h : Heap) (L : List Loc) : Prop := v = some (.int w) ∧ Fr n0 L ∧ h = h0
set_option maxRecDepth 65536 in
set_option maxHeartbeats 40000000 in
theorem rm10 (l : Launch) (Z : State) (a0 : Array Value) (hw : ∀ d ∈ tables_1, d.before a0 Z = true) (ws : List Jvm.Cond) (o : Addr) (w : Int32) (h0 : Heap) (n0 : Nat) (Z0 : n0 ≤ h0.size) (pr0 : Fld Z h0 o "com/example/sagasu/sagasu/Grid$RowRuns" "size" "I" (.int w)) :
    own_Met l Z h0 (⟨"com/example/sagasu/sagasu/Grid$RowRuns", "size", "()I"⟩ : MethodName) prog_17_method_3_code 1 (some .int) ws ({ frames := 0, cells := 0, slots := 0, locals := 0 } : Room) #[(.ref o)] (Q_rm10 Z o w h0 n0) := by
  refine own_enter (plainFor_of_name pn_10) ?_
  intro p e s m below meth c T0 X0 hx hby hml hret hlk hown hnm hZ e0
  have N0 := Fr.nil n0
  rw [show entryFrame m #[(.ref o)] 1 = (mkF m 0 #[.val (.ref o)] []) from by first | (simp [entryFrame, mkF, argsToLocals, Value.category]; done) | rfl]
  refine own_Go.of (S' := (T0.setTop (mkF m 1 #[.val (.ref o)] [(.ref o)]))) (fun t kt => ?_) ?_
  · show Steps p.tables e below (T0.setTop (mkF m 0 #[.val (.ref o)] [])) _
    refine XS.aloadN X0.here hx rfl (own_hb hby d10_0) rfl rfl ?_
    exact kt
  obtain ⟨T130, X130, e130, st130⟩ := getF X0 hx hZ hown (host := "") (Or.inl (hw _ (List.mem_of_getElem? (i := 36) rfl))) Via.refl e0 pr0 (g := (mkF m 1 #[.val (.ref o)] [(.ref o)])) rfl rfl (own_hb hby d10_1)
  refine own_Go.of (S' := (T130.setTop (mkF m 4 #[.val (.ref o)] [(.int w)]))) st130 ?_
  exact own_retI X130 hx hlk hret (own_hb hby d10_4) e130 ⟨rfl, N0, rfl⟩ (by decide) (by decide)
theorem pn_0 : plainName "com/example/sagasu/sagasu/RowRunsCellsPinLaw" = true := by first | (simp [plainName, overriddenIn]; done) | decide +kernel
def Q_rm0 (Z : State) (p0 : Int64) (p1 : Int64) (p2 : Int64) (p3 : Int32) (h0 : Heap) (n0 : Nat) (v : Option Value) (h : Heap) (L : List Loc) : Prop := v = some (.int (1 : Int32)) ∧ Fr n0 L
theorem pd_0 : parseMethodDescriptor "(J)I" = some ⟨[.long], some .int⟩ := by decide +kernel
theorem pd_1 : parseMethodDescriptor "(II)I" = some ⟨[.int, .int], some .int⟩ := by decide +kernel
theorem pd_2 : parseMethodDescriptor "()V" = some ⟨[], none⟩ := by decide +kernel
theorem pd_3 : parseMethodDescriptor "(III)V" = some ⟨[.int, .int, .int], none⟩ := by decide +kernel
theorem pd_4 : parseMethodDescriptor "(II)J" = some ⟨[.int, .int], some .long⟩ := by decide +kernel
theorem pd_5 : parseMethodDescriptor "(IIIJ)J" = some ⟨[.int, .int, .int, .long], some .long⟩ := by decide +kernel
theorem pd_6 : parseMethodDescriptor "()I" = some ⟨[], some .int⟩ := by decide +kernel
set_option maxRecDepth 65536 in
set_option maxHeartbeats 40000000 in
theorem rm0 (l : Launch) (Z : State) (a0 : Array Value) (hw : ∀ d ∈ tables_1, d.before a0 Z = true) (ws : List Jvm.Cond) (p0 : Int64) (p1 : Int64) (p2 : Int64) (p3 : Int32) (h0 : Heap) (n0 : Nat) (Z0 : n0 ≤ h0.size)  :
    own_Met l Z h0 x code maxLocals ret ws room_1 #[(.long p0), (.long p1), (.long p2), (.int p3)] (Q_rm0 Z p0 p1 p2 p3 h0 n0) := by
  refine own_enter (plainFor_of_name pn_0) ?_
  intro p e s m below meth c T0 X0 hx hby hml hret hlk hown hnm hZ e0
  have N0 := Fr.nil n0
  rw [show entryFrame m #[(.long p0), (.long p1), (.long p2), (.int p3)] maxLocals = (mkF m 0 #[.val (.long p0), .second, .val (.long p1), .second, .val (.long p2), .second, .val (.int p3), .unset, .unset, .unset, .unset, .unset, .unset, .unset, .unset, .unset, .unset, .unset, .unset, .unset, .unset, .unset, .unset, .unset, .unset, .unset, .unset, .unset] []) from by first | (simp [entryFrame, mkF, argsToLocals, Value.category, maxLocals]; done) | rfl]
  obtain ⟨fs0, haa0, ea0⟩ : ∃ n : Nat, n ≤ 1073741823 ∧ own_first p0 = Int32.ofNat n := own_mask _ 1073741823
  obtain ⟨wd0, hwd0, eb0⟩ : ∃ n : Nat, n ≤ 1073741823 ∧ own_width p0 = Int32.ofNat n := own_mask _ 1073741823
  obtain ⟨fs1, haa1, ea1⟩ : ∃ n : Nat, n ≤ 1073741823 ∧ own_first p1 = Int32.ofNat n := own_mask _ 1073741823
  obtain ⟨wd1, hwd1, eb1⟩ : ∃ n : Nat, n ≤ 1073741823 ∧ own_width p1 = Int32.ofNat n := own_mask _ 1073741823
  obtain ⟨fs2, haa2, ea2⟩ : ∃ n : Nat, n ≤ 1073741823 ∧ own_first p2 = Int32.ofNat n := own_mask _ 1073741823
  obtain ⟨wd2, hwd2, eb2⟩ : ∃ n : Nat, n ≤ 1073741823 ∧ own_width p2 = Int32.ofNat n := own_mask _ 1073741823
  obtain ⟨x1, hx1, ex1⟩ : ∃ n : Nat, n ≤ 3 ∧ (p3 &&& (3 : Int32)) = Int32.ofNat n := own_mask _ 3
  obtain ⟨y1, hy1, ey1⟩ : ∃ n : Nat, n ≤ 3 ∧ (((p3.toUInt32 >>> ((2 : Int32) &&& 31).toUInt32).toInt32) &&& (3 : Int32)) = Int32.ofNat n := own_mask _ 3
  obtain ⟨lo, hlo⟩ : ∃ z, z = min x1 y1 := ⟨_, rfl⟩
  obtain ⟨hi, hhi⟩ : ∃ z, z = max x1 y1 := ⟨_, rfl⟩
  have hlh : lo ≤ hi := by omega
  have hh3 : hi ≤ 3 := by omega
  refine own_Go.of (S' := (T0.setTop (mkF m 1 #[.val (.long p0), .second, .val (.long p1), .second, .val (.long p2), .second, .val (.int p3), .unset, .unset, .unset, .unset, .unset, .unset, .unset, .unset, .unset, .unset, .unset, .unset, .unset, .unset, .unset, .unset, .unset, .unset, .unset, .unset, .unset] [(.long p0)]))) (fun t kt => ?_) ?_
  · show Steps p.tables e below (T0.setTop (mkF m 0 #[.val (.long p0), .second, .val (.long p1), .second, .val (.long p2), .second, .val (.int p3), .unset, .unset, .unset, .unset, .unset, .unset, .unset, .unset, .unset, .unset, .unset, .unset, .unset, .unset, .unset, .unset, .unset, .unset, .unset, .unset, .unset] [])) _
    refine XS.lloadN X0.here hx rfl (own_hb hby at_0) rfl ?_
    exact kt
  obtain ⟨_, _, ⟨T131, L131, k131, n131⟩, -, X131, ⟨Lc131, hQ131, l131, y131, z131⟩, st131⟩ := Jvm.LawKit.callS X0 hx (y := (⟨"com/example/sagasu/sagasu/RowRunsCellsPinLaw", "first", "(J)I"⟩ : MethodName)) hown (mvT hZ (hw _ (List.mem_of_getElem? (i := 0) rfl))) (mvT hZ (hw _ (List.mem_of_getElem? (i := 1) rfl))) (mvT hZ (hw _ (List.mem_of_getElem? (i := 2) rfl))) (mvT hZ (hw _ (List.mem_of_getElem? (i := 3) rfl))) (by decide) (backOf (W := 0) (rm1 l Z a0 hw [] p0 h0 n0 Z0 ) hZ (hw _ (List.mem_of_getElem? (i := 3) rfl)) (hw _ (List.mem_of_getElem? (i := 2) rfl)) (by decide) (by decide)) (g := (mkF m 1 #[.val (.long p0), .second, .val (.long p1), .second, .val (.long p2), .second, .val (.int p3), .unset, .unset, .unset, .unset, .unset, .unset, .unset, .unset, .unset, .unset, .unset, .unset, .unset, .unset, .unset, .unset, .unset, .unset, .unset, .unset, .unset] [(.long p0)])) rfl (by rw [hml]; rfl) (argsL := [(.long p0)]) (rest := []) (lenOf pd_0 rfl) rfl (by show 2 * 0 + _ ≤ _; exact Nat.le_of_eq rfl) (own_hb hby at_1) (fun _ _ => ⟨rfl, e0, (by decide : 0 + 0 ≤ _), (by decide : 0 + 0 ≤ _)⟩)
  dsimp only [Pt.U, Pt.locs, Pt.cells, Pt.slots] at X131 l131 y131 z131 st131 hQ131
  subst l131 y131 z131
  obtain ⟨rfl, N131q, hh131⟩ := hQ131
  have N131 := Fr.app N0 N131q
  refine own_Go.of (S' := (T131.setTop (mkF m 4 #[.val (.long p0), .second, .val (.long p1), .second, .val (.long p2), .second, .val (.int p3), .unset, .unset, .unset, .unset, .unset, .unset, .unset, .unset, .unset, .unset, .unset, .unset, .unset, .unset, .unset, .unset, .unset, .unset, .unset, .unset, .unset] [(.int (own_first p0))]))) (fun t kt => st131 t kt) ?_
  refine own_Go.of (S' := (T131.setTop (mkF m 9 #[.val (.long p0), .second, .val (.long p1), .second, .val (.long p2), .second, .val (.int p3), .val (.int (Int32.ofNat fs0)), .unset, .unset, .unset, .unset, .unset, .unset, .unset, .unset, .unset, .unset, .unset, .unset, .unset, .unset, .unset, .unset, .unset, .unset, .unset, .unset] [(.long p0), (.int (Int32.ofNat fs0))]))) (fun t kt => ?_) ?_
  · show Steps p.tables e below (T131.setTop (mkF m 4 #[.val (.long p0), .second, .val (.long p1), .second, .val (.long p2), .second, .val (.int p3), .unset, .unset, .unset, .unset, .unset, .unset, .unset, .unset, .unset, .unset, .unset, .unset, .unset, .unset, .unset, .unset, .unset, .unset, .unset, .unset, .unset] [(.int (own_first p0))])) _
    rw [ea0]
    show Steps p.tables e below (T131.setTop (mkF m 4 #[.val (.long p0), .second, .val (.long p1), .second, .val (.long p2), .second, .val (.int p3), .unset, .unset, .unset, .unset, .unset, .unset, .unset, .unset, .unset, .unset, .unset, .unset, .unset, .unset, .unset, .unset, .unset, .unset, .unset, .unset, .unset] [(.int (Int32.ofNat fs0))])) _
    refine XS.istore X131.here hx rfl (own_hb hby at_4) rfl (l' := #[.val (.long p0), .second, .val (.long p1), .second, .val (.long p2), .second, .val (.int p3), .val (.int (Int32.ofNat fs0)), .unset, .unset, .unset, .unset, .unset, .unset, .unset, .unset, .unset, .unset, .unset, .unset, .unset, .unset, .unset, .unset, .unset, .unset, .unset, .unset]) rfl ?_
    show Steps p.tables e below (T131.setTop (mkF m 6 #[.val (.long p0), .second, .val (.long p1), .second, .val (.long p2), .second, .val (.int p3), .val (.int (Int32.ofNat fs0)), .unset, .unset, .unset, .unset, .unset, .unset, .unset, .unset, .unset, .unset, .unset, .unset, .unset, .unset, .unset, .unset, .unset, .unset, .unset, .unset] [])) _
    refine XS.iload X131.here hx rfl (own_hb hby at_6) rfl ?_
    show Steps p.tables e below (T131.setTop (mkF m 8 #[.val (.long p0), .second, .val (.long p1), .second, .val (.long p2), .second, .val (.int p3), .val (.int (Int32.ofNat fs0)), .unset, .unset, .unset, .unset, .unset, .unset, .unset, .unset, .unset, .unset, .unset, .unset, .unset, .unset, .unset, .unset, .unset, .unset, .unset, .unset] [(.int (Int32.ofNat fs0))])) _
    refine XS.lloadN X131.here hx rfl (own_hb hby at_8) rfl ?_
    exact kt
  obtain ⟨_, _, ⟨T132, L132, k132, n132⟩, -, X132, ⟨Lc132, hQ132, l132, y132, z132⟩, st132⟩ := Jvm.LawKit.callS X131 hx (y := (⟨"com/example/sagasu/sagasu/RowRunsCellsPinLaw", "width", "(J)I"⟩ : MethodName)) hown (mvT hZ (hw _ (List.mem_of_getElem? (i := 5) rfl))) (mvT hZ (hw _ (List.mem_of_getElem? (i := 6) rfl))) (mvT hZ (hw _ (List.mem_of_getElem? (i := 2) rfl))) (mvT hZ (hw _ (List.mem_of_getElem? (i := 7) rfl))) (by decide) (backOf (W := 1) (rm2 l Z a0 hw [] p0 h0 n0 Z0 ) hZ (hw _ (List.mem_of_getElem? (i := 7) rfl)) (hw _ (List.mem_of_getElem? (i := 2) rfl)) (by decide) (by decide)) (g := (mkF m 9 #[.val (.long p0), .second, .val (.long p1), .second, .val (.long p2), .second, .val (.int p3), .val (.int (Int32.ofNat fs0)), .unset, .unset, .unset, .unset, .unset, .unset, .unset, .unset, .unset, .unset, .unset, .unset, .unset, .unset, .unset, .unset, .unset, .unset, .unset, .unset] [(.long p0), (.int (Int32.ofNat fs0))])) rfl (by rw [hml]; rfl) (argsL := [(.long p0)]) (rest := [(.int (Int32.ofNat fs0))]) (lenOf pd_0 rfl) rfl (by show 2 * 0 + _ ≤ _; exact Nat.le_of_eq rfl) (own_hb hby at_9) (fun _ _ => ⟨rfl, hh131, (by decide : 0 + 0 ≤ _), (by decide : 0 + 0 ≤ _)⟩)
  dsimp only [Pt.U, Pt.locs, Pt.cells, Pt.slots] at X132 l132 y132 z132 st132 hQ132
  subst l132 y132 z132
  obtain ⟨rfl, N132q, hh132⟩ := hQ132
  have N132 := Fr.app N131 N132q
  refine own_Go.of (S' := (T132.setTop (mkF m 12 #[.val (.long p0), .second, .val (.long p1), .second, .val (.long p2), .second, .val (.int p3), .val (.int (Int32.ofNat fs0)), .unset, .unset, .unset, .unset, .unset, .unset, .unset, .unset, .unset, .unset, .unset, .unset, .unset, .unset, .unset, .unset, .unset, .unset, .unset, .unset] [(.int (own_width p0)), (.int (Int32.ofNat fs0))]))) (fun t kt => st132 t kt) ?_
  refine own_Go.of (S' := (T132.setTop (mkF m 16 #[.val (.long p0), .second, .val (.long p1), .second, .val (.long p2), .second, .val (.int p3), .val (.int (Int32.ofNat fs0)), .val (.int (Int32.ofNat (fs0 + wd0))), .unset, .unset, .unset, .unset, .unset, .unset, .unset, .unset, .unset, .unset, .unset, .unset, .unset, .unset, .unset, .unset, .unset, .unset, .unset] [(.long p1)]))) (fun t kt => ?_) ?_
  · show Steps p.tables e below (T132.setTop (mkF m 12 #[.val (.long p0), .second, .val (.long p1), .second, .val (.long p2), .second, .val (.int p3), .val (.int (Int32.ofNat fs0)), .unset, .unset, .unset, .unset, .unset, .unset, .unset, .unset, .unset, .unset, .unset, .unset, .unset, .unset, .unset, .unset, .unset, .unset, .unset, .unset] [(.int (own_width p0)), (.int (Int32.ofNat fs0))])) _
    rw [eb0]
    show Steps p.tables e below (T132.setTop (mkF m 12 #[.val (.long p0), .second, .val (.long p1), .second, .val (.long p2), .second, .val (.int p3), .val (.int (Int32.ofNat fs0)), .unset, .unset, .unset, .unset, .unset, .unset, .unset, .unset, .unset, .unset, .unset, .unset, .unset, .unset, .unset, .unset, .unset, .unset, .unset, .unset] [(.int (Int32.ofNat wd0)), (.int (Int32.ofNat fs0))])) _
    refine XS.iadd X132.here hx rfl (own_hb hby at_12) rfl ?_
    show Steps p.tables e below (T132.setTop (mkF m 13 #[.val (.long p0), .second, .val (.long p1), .second, .val (.long p2), .second, .val (.int p3), .val (.int (Int32.ofNat fs0)), .unset, .unset, .unset, .unset, .unset, .unset, .unset, .unset, .unset, .unset, .unset, .unset, .unset, .unset, .unset, .unset, .unset, .unset, .unset, .unset] [(.int ((Int32.ofNat fs0) + (Int32.ofNat wd0)))])) _
    rw [own_addN fs0 wd0]
    show Steps p.tables e below (T132.setTop (mkF m 13 #[.val (.long p0), .second, .val (.long p1), .second, .val (.long p2), .second, .val (.int p3), .val (.int (Int32.ofNat fs0)), .unset, .unset, .unset, .unset, .unset, .unset, .unset, .unset, .unset, .unset, .unset, .unset, .unset, .unset, .unset, .unset, .unset, .unset, .unset, .unset] [(.int (Int32.ofNat (fs0 + wd0)))])) _
    refine XS.istore X132.here hx rfl (own_hb hby at_13) rfl (l' := #[.val (.long p0), .second, .val (.long p1), .second, .val (.long p2), .second, .val (.int p3), .val (.int (Int32.ofNat fs0)), .val (.int (Int32.ofNat (fs0 + wd0))), .unset, .unset, .unset, .unset, .unset, .unset, .unset, .unset, .unset, .unset, .unset, .unset, .unset, .unset, .unset, .unset, .unset, .unset, .unset]) rfl ?_
    show Steps p.tables e below (T132.setTop (mkF m 15 #[.val (.long p0), .second, .val (.long p1), .second, .val (.long p2), .second, .val (.int p3), .val (.int (Int32.ofNat fs0)), .val (.int (Int32.ofNat (fs0 + wd0))), .unset, .unset, .unset, .unset, .unset, .unset, .unset, .unset, .unset, .unset, .unset, .unset, .unset, .unset, .unset, .unset, .unset, .unset, .unset] [])) _
    refine XS.lloadN X132.here hx rfl (own_hb hby at_15) rfl ?_
    exact kt
  obtain ⟨_, _, ⟨T133, L133, k133, n133⟩, -, X133, ⟨Lc133, hQ133, l133, y133, z133⟩, st133⟩ := Jvm.LawKit.callS X132 hx (y := (⟨"com/example/sagasu/sagasu/RowRunsCellsPinLaw", "first", "(J)I"⟩ : MethodName)) hown (mvT hZ (hw _ (List.mem_of_getElem? (i := 0) rfl))) (mvT hZ (hw _ (List.mem_of_getElem? (i := 1) rfl))) (mvT hZ (hw _ (List.mem_of_getElem? (i := 2) rfl))) (mvT hZ (hw _ (List.mem_of_getElem? (i := 3) rfl))) (by decide) (backOf (W := 0) (rm1 l Z a0 hw [] p1 h0 n0 Z0 ) hZ (hw _ (List.mem_of_getElem? (i := 3) rfl)) (hw _ (List.mem_of_getElem? (i := 2) rfl)) (by decide) (by decide)) (g := (mkF m 16 #[.val (.long p0), .second, .val (.long p1), .second, .val (.long p2), .second, .val (.int p3), .val (.int (Int32.ofNat fs0)), .val (.int (Int32.ofNat (fs0 + wd0))), .unset, .unset, .unset, .unset, .unset, .unset, .unset, .unset, .unset, .unset, .unset, .unset, .unset, .unset, .unset, .unset, .unset, .unset, .unset] [(.long p1)])) rfl (by rw [hml]; rfl) (argsL := [(.long p1)]) (rest := []) (lenOf pd_0 rfl) rfl (by show 2 * 0 + _ ≤ _; exact Nat.le_of_eq rfl) (own_hb hby at_16) (fun _ _ => ⟨rfl, hh132, (by decide : 0 + 0 ≤ _), (by decide : 0 + 0 ≤ _)⟩)
  dsimp only [Pt.U, Pt.locs, Pt.cells, Pt.slots] at X133 l133 y133 z133 st133 hQ133
  subst l133 y133 z133
  obtain ⟨rfl, N133q, hh133⟩ := hQ133
  have N133 := Fr.app N132 N133q
  refine own_Go.of (S' := (T133.setTop (mkF m 19 #[.val (.long p0), .second, .val (.long p1), .second, .val (.long p2), .second, .val (.int p3), .val (.int (Int32.ofNat fs0)), .val (.int (Int32.ofNat (fs0 + wd0))), .unset, .unset, .unset, .unset, .unset, .unset, .unset, .unset, .unset, .unset, .unset, .unset, .unset, .unset, .unset, .unset, .unset, .unset, .unset] [(.int (own_first p1))]))) (fun t kt => st133 t kt) ?_
  refine own_Go.of (S' := (T133.setTop (mkF m 24 #[.val (.long p0), .second, .val (.long p1), .second, .val (.long p2), .second, .val (.int p3), .val (.int (Int32.ofNat fs0)), .val (.int (Int32.ofNat (fs0 + wd0))), .val (.int (Int32.ofNat fs1)), .unset, .unset, .unset, .unset, .unset, .unset, .unset, .unset, .unset, .unset, .unset, .unset, .unset, .unset, .unset, .unset, .unset, .unset] [(.long p1), (.int (Int32.ofNat fs1))]))) (fun t kt => ?_) ?_
  · show Steps p.tables e below (T133.setTop (mkF m 19 #[.val (.long p0), .second, .val (.long p1), .second, .val (.long p2), .second, .val (.int p3), .val (.int (Int32.ofNat fs0)), .val (.int (Int32.ofNat (fs0 + wd0))), .unset, .unset, .unset, .unset, .unset, .unset, .unset, .unset, .unset, .unset, .unset, .unset, .unset, .unset, .unset, .unset, .unset, .unset, .unset] [(.int (own_first p1))])) _
    rw [ea1]
    show Steps p.tables e below (T133.setTop (mkF m 19 #[.val (.long p0), .second, .val (.long p1), .second, .val (.long p2), .second, .val (.int p3), .val (.int (Int32.ofNat fs0)), .val (.int (Int32.ofNat (fs0 + wd0))), .unset, .unset, .unset, .unset, .unset, .unset, .unset, .unset, .unset, .unset, .unset, .unset, .unset, .unset, .unset, .unset, .unset, .unset, .unset] [(.int (Int32.ofNat fs1))])) _
    refine XS.istore X133.here hx rfl (own_hb hby at_19) rfl (l' := #[.val (.long p0), .second, .val (.long p1), .second, .val (.long p2), .second, .val (.int p3), .val (.int (Int32.ofNat fs0)), .val (.int (Int32.ofNat (fs0 + wd0))), .val (.int (Int32.ofNat fs1)), .unset, .unset, .unset, .unset, .unset, .unset, .unset, .unset, .unset, .unset, .unset, .unset, .unset, .unset, .unset, .unset, .unset, .unset]) rfl ?_
    show Steps p.tables e below (T133.setTop (mkF m 21 #[.val (.long p0), .second, .val (.long p1), .second, .val (.long p2), .second, .val (.int p3), .val (.int (Int32.ofNat fs0)), .val (.int (Int32.ofNat (fs0 + wd0))), .val (.int (Int32.ofNat fs1)), .unset, .unset, .unset, .unset, .unset, .unset, .unset, .unset, .unset, .unset, .unset, .unset, .unset, .unset, .unset, .unset, .unset, .unset] [])) _
    refine XS.iload X133.here hx rfl (own_hb hby at_21) rfl ?_
    show Steps p.tables e below (T133.setTop (mkF m 23 #[.val (.long p0), .second, .val (.long p1), .second, .val (.long p2), .second, .val (.int p3), .val (.int (Int32.ofNat fs0)), .val (.int (Int32.ofNat (fs0 + wd0))), .val (.int (Int32.ofNat fs1)), .unset, .unset, .unset, .unset, .unset, .unset, .unset, .unset, .unset, .unset, .unset, .unset, .unset, .unset, .unset, .unset, .unset, .unset] [(.int (Int32.ofNat fs1))])) _
    refine XS.lloadN X133.here hx rfl (own_hb hby at_23) rfl ?_
    exact kt
  obtain ⟨_, _, ⟨T134, L134, k134, n134⟩, -, X134, ⟨Lc134, hQ134, l134, y134, z134⟩, st134⟩ := Jvm.LawKit.callS X133 hx (y := (⟨"com/example/sagasu/sagasu/RowRunsCellsPinLaw", "width", "(J)I"⟩ : MethodName)) hown (mvT hZ (hw _ (List.mem_of_getElem? (i := 5) rfl))) (mvT hZ (hw _ (List.mem_of_getElem? (i := 6) rfl))) (mvT hZ (hw _ (List.mem_of_getElem? (i := 2) rfl))) (mvT hZ (hw _ (List.mem_of_getElem? (i := 7) rfl))) (by decide) (backOf (W := 1) (rm2 l Z a0 hw [] p1 h0 n0 Z0 ) hZ (hw _ (List.mem_of_getElem? (i := 7) rfl)) (hw _ (List.mem_of_getElem? (i := 2) rfl)) (by decide) (by decide)) (g := (mkF m 24 #[.val (.long p0), .second, .val (.long p1), .second, .val (.long p2), .second, .val (.int p3), .val (.int (Int32.ofNat fs0)), .val (.int (Int32.ofNat (fs0 + wd0))), .val (.int (Int32.ofNat fs1)), .unset, .unset, .unset, .unset, .unset, .unset, .unset, .unset, .unset, .unset, .unset, .unset, .unset, .unset, .unset, .unset, .unset, .unset] [(.long p1), (.int (Int32.ofNat fs1))])) rfl (by rw [hml]; rfl) (argsL := [(.long p1)]) (rest := [(.int (Int32.ofNat fs1))]) (lenOf pd_0 rfl) rfl (by show 2 * 0 + _ ≤ _; exact Nat.le_of_eq rfl) (own_hb hby at_24) (fun _ _ => ⟨rfl, hh133, (by decide : 0 + 0 ≤ _), (by decide : 0 + 0 ≤ _)⟩)
  dsimp only [Pt.U, Pt.locs, Pt.cells, Pt.slots] at X134 l134 y134 z134 st134 hQ134
  subst l134 y134 z134
  obtain ⟨rfl, N134q, hh134⟩ := hQ134
  have N134 := Fr.app N133 N134q
  refine own_Go.of (S' := (T134.setTop (mkF m 27 #[.val (.long p0), .second, .val (.long p1), .second, .val (.long p2), .second, .val (.int p3), .val (.int (Int32.ofNat fs0)), .val (.int (Int32.ofNat (fs0 + wd0))), .val (.int (Int32.ofNat fs1)), .unset, .unset, .unset, .unset, .unset, .unset, .unset, .unset, .unset, .unset, .unset, .unset, .unset, .unset, .unset, .unset, .unset, .unset] [(.int (own_width p1)), (.int (Int32.ofNat fs1))]))) (fun t kt => st134 t kt) ?_
  refine own_Go.of (S' := (T134.setTop (mkF m 32 #[.val (.long p0), .second, .val (.long p1), .second, .val (.long p2), .second, .val (.int p3), .val (.int (Int32.ofNat fs0)), .val (.int (Int32.ofNat (fs0 + wd0))), .val (.int (Int32.ofNat fs1)), .val (.int (Int32.ofNat (fs1 + wd1))), .unset, .unset, .unset, .unset, .unset, .unset, .unset, .unset, .unset, .unset, .unset, .unset, .unset, .unset, .unset, .unset, .unset] [(.long p2)]))) (fun t kt => ?_) ?_
  · show Steps p.tables e below (T134.setTop (mkF m 27 #[.val (.long p0), .second, .val (.long p1), .second, .val (.long p2), .second, .val (.int p3), .val (.int (Int32.ofNat fs0)), .val (.int (Int32.ofNat (fs0 + wd0))), .val (.int (Int32.ofNat fs1)), .unset, .unset, .unset, .unset, .unset, .unset, .unset, .unset, .unset, .unset, .unset, .unset, .unset, .unset, .unset, .unset, .unset, .unset] [(.int (own_width p1)), (.int (Int32.ofNat fs1))])) _
    rw [eb1]
    show Steps p.tables e below (T134.setTop (mkF m 27 #[.val (.long p0), .second, .val (.long p1), .second, .val (.long p2), .second, .val (.int p3), .val (.int (Int32.ofNat fs0)), .val (.int (Int32.ofNat (fs0 + wd0))), .val (.int (Int32.ofNat fs1)), .unset, .unset, .unset, .unset, .unset, .unset, .unset, .unset, .unset, .unset, .unset, .unset, .unset, .unset, .unset, .unset, .unset, .unset] [(.int (Int32.ofNat wd1)), (.int (Int32.ofNat fs1))])) _
    refine XS.iadd X134.here hx rfl (own_hb hby at_27) rfl ?_
    show Steps p.tables e below (T134.setTop (mkF m 28 #[.val (.long p0), .second, .val (.long p1), .second, .val (.long p2), .second, .val (.int p3), .val (.int (Int32.ofNat fs0)), .val (.int (Int32.ofNat (fs0 + wd0))), .val (.int (Int32.ofNat fs1)), .unset, .unset, .unset, .unset, .unset, .unset, .unset, .unset, .unset, .unset, .unset, .unset, .unset, .unset, .unset, .unset, .unset, .unset] [(.int ((Int32.ofNat fs1) + (Int32.ofNat wd1)))])) _
    rw [own_addN fs1 wd1]
    show Steps p.tables e below (T134.setTop (mkF m 28 #[.val (.long p0), .second, .val (.long p1), .second, .val (.long p2), .second, .val (.int p3), .val (.int (Int32.ofNat fs0)), .val (.int (Int32.ofNat (fs0 + wd0))), .val (.int (Int32.ofNat fs1)), .unset, .unset, .unset, .unset, .unset, .unset, .unset, .unset, .unset, .unset, .unset, .unset, .unset, .unset, .unset, .unset, .unset, .unset] [(.int (Int32.ofNat (fs1 + wd1)))])) _
    refine XS.istore X134.here hx rfl (own_hb hby at_28) rfl (l' := #[.val (.long p0), .second, .val (.long p1), .second, .val (.long p2), .second, .val (.int p3), .val (.int (Int32.ofNat fs0)), .val (.int (Int32.ofNat (fs0 + wd0))), .val (.int (Int32.ofNat fs1)), .val (.int (Int32.ofNat (fs1 + wd1))), .unset, .unset, .unset, .unset, .unset, .unset, .unset, .unset, .unset, .unset, .unset, .unset, .unset, .unset, .unset, .unset, .unset]) rfl ?_
    show Steps p.tables e below (T134.setTop (mkF m 30 #[.val (.long p0), .second, .val (.long p1), .second, .val (.long p2), .second, .val (.int p3), .val (.int (Int32.ofNat fs0)), .val (.int (Int32.ofNat (fs0 + wd0))), .val (.int (Int32.ofNat fs1)), .val (.int (Int32.ofNat (fs1 + wd1))), .unset, .unset, .unset, .unset, .unset, .unset, .unset, .unset, .unset, .unset, .unset, .unset, .unset, .unset, .unset, .unset, .unset] [])) _
    refine XS.lload X134.here hx rfl (own_hb hby at_30) rfl ?_
    exact kt
  obtain ⟨_, _, ⟨T135, L135, k135, n135⟩, -, X135, ⟨Lc135, hQ135, l135, y135, z135⟩, st135⟩ := Jvm.LawKit.callS X134 hx (y := (⟨"com/example/sagasu/sagasu/RowRunsCellsPinLaw", "first", "(J)I"⟩ : MethodName)) hown (mvT hZ (hw _ (List.mem_of_getElem? (i := 0) rfl))) (mvT hZ (hw _ (List.mem_of_getElem? (i := 1) rfl))) (mvT hZ (hw _ (List.mem_of_getElem? (i := 2) rfl))) (mvT hZ (hw _ (List.mem_of_getElem? (i := 3) rfl))) (by decide) (backOf (W := 0) (rm1 l Z a0 hw [] p2 h0 n0 Z0 ) hZ (hw _ (List.mem_of_getElem? (i := 3) rfl)) (hw _ (List.mem_of_getElem? (i := 2) rfl)) (by decide) (by decide)) (g := (mkF m 32 #[.val (.long p0), .second, .val (.long p1), .second, .val (.long p2), .second, .val (.int p3), .val (.int (Int32.ofNat fs0)), .val (.int (Int32.ofNat (fs0 + wd0))), .val (.int (Int32.ofNat fs1)), .val (.int (Int32.ofNat (fs1 + wd1))), .unset, .unset, .unset, .unset, .unset, .unset, .unset, .unset, .unset, .unset, .unset, .unset, .unset, .unset, .unset, .unset, .unset] [(.long p2)])) rfl (by rw [hml]; rfl) (argsL := [(.long p2)]) (rest := []) (lenOf pd_0 rfl) rfl (by show 2 * 0 + _ ≤ _; exact Nat.le_of_eq rfl) (own_hb hby at_32) (fun _ _ => ⟨rfl, hh134, (by decide : 0 + 0 ≤ _), (by decide : 0 + 0 ≤ _)⟩)
  dsimp only [Pt.U, Pt.locs, Pt.cells, Pt.slots] at X135 l135 y135 z135 st135 hQ135
  subst l135 y135 z135
  obtain ⟨rfl, N135q, hh135⟩ := hQ135
  have N135 := Fr.app N134 N135q
  refine own_Go.of (S' := (T135.setTop (mkF m 35 #[.val (.long p0), .second, .val (.long p1), .second, .val (.long p2), .second, .val (.int p3), .val (.int (Int32.ofNat fs0)), .val (.int (Int32.ofNat (fs0 + wd0))), .val (.int (Int32.ofNat fs1)), .val (.int (Int32.ofNat (fs1 + wd1))), .unset, .unset, .unset, .unset, .unset, .unset, .unset, .unset, .unset, .unset, .unset, .unset, .unset, .unset, .unset, .unset, .unset] [(.int (own_first p2))]))) (fun t kt => st135 t kt) ?_
  refine own_Go.of (S' := (T135.setTop (mkF m 41 #[.val (.long p0), .second, .val (.long p1), .second, .val (.long p2), .second, .val (.int p3), .val (.int (Int32.ofNat fs0)), .val (.int (Int32.ofNat (fs0 + wd0))), .val (.int (Int32.ofNat fs1)), .val (.int (Int32.ofNat (fs1 + wd1))), .val (.int (Int32.ofNat fs2)), .unset, .unset, .unset, .unset, .unset, .unset, .unset, .unset, .unset, .unset, .unset, .unset, .unset, .unset, .unset, .unset] [(.long p2), (.int (Int32.ofNat fs2))]))) (fun t kt => ?_) ?_
  · show Steps p.tables e below (T135.setTop (mkF m 35 #[.val (.long p0), .second, .val (.long p1), .second, .val (.long p2), .second, .val (.int p3), .val (.int (Int32.ofNat fs0)), .val (.int (Int32.ofNat (fs0 + wd0))), .val (.int (Int32.ofNat fs1)), .val (.int (Int32.ofNat (fs1 + wd1))), .unset, .unset, .unset, .unset, .unset, .unset, .unset, .unset, .unset, .unset, .unset, .unset, .unset, .unset, .unset, .unset, .unset] [(.int (own_first p2))])) _
    rw [ea2]
    show Steps p.tables e below (T135.setTop (mkF m 35 #[.val (.long p0), .second, .val (.long p1), .second, .val (.long p2), .second, .val (.int p3), .val (.int (Int32.ofNat fs0)), .val (.int (Int32.ofNat (fs0 + wd0))), .val (.int (Int32.ofNat fs1)), .val (.int (Int32.ofNat (fs1 + wd1))), .unset, .unset, .unset, .unset, .unset, .unset, .unset, .unset, .unset, .unset, .unset, .unset, .unset, .unset, .unset, .unset, .unset] [(.int (Int32.ofNat fs2))])) _
    refine XS.istore X135.here hx rfl (own_hb hby at_35) rfl (l' := #[.val (.long p0), .second, .val (.long p1), .second, .val (.long p2), .second, .val (.int p3), .val (.int (Int32.ofNat fs0)), .val (.int (Int32.ofNat (fs0 + wd0))), .val (.int (Int32.ofNat fs1)), .val (.int (Int32.ofNat (fs1 + wd1))), .val (.int (Int32.ofNat fs2)), .unset, .unset, .unset, .unset, .unset, .unset, .unset, .unset, .unset, .unset, .unset, .unset, .unset, .unset, .unset, .unset]) rfl ?_
    show Steps p.tables e below (T135.setTop (mkF m 37 #[.val (.long p0), .second, .val (.long p1), .second, .val (.long p2), .second, .val (.int p3), .val (.int (Int32.ofNat fs0)), .val (.int (Int32.ofNat (fs0 + wd0))), .val (.int (Int32.ofNat fs1)), .val (.int (Int32.ofNat (fs1 + wd1))), .val (.int (Int32.ofNat fs2)), .unset, .unset, .unset, .unset, .unset, .unset, .unset, .unset, .unset, .unset, .unset, .unset, .unset, .unset, .unset, .unset] [])) _
    refine XS.iload X135.here hx rfl (own_hb hby at_37) rfl ?_
    show Steps p.tables e below (T135.setTop (mkF m 39 #[.val (.long p0), .second, .val (.long p1), .second, .val (.long p2), .second, .val (.int p3), .val (.int (Int32.ofNat fs0)), .val (.int (Int32.ofNat (fs0 + wd0))), .val (.int (Int32.ofNat fs1)), .val (.int (Int32.ofNat (fs1 + wd1))), .val (.int (Int32.ofNat fs2)), .unset, .unset, .unset, .unset, .unset, .unset, .unset, .unset, .unset, .unset, .unset, .unset, .unset, .unset, .unset, .unset] [(.int (Int32.ofNat fs2))])) _
    refine XS.lload X135.here hx rfl (own_hb hby at_39) rfl ?_
    exact kt
  obtain ⟨_, _, ⟨T136, L136, k136, n136⟩, -, X136, ⟨Lc136, hQ136, l136, y136, z136⟩, st136⟩ := Jvm.LawKit.callS X135 hx (y := (⟨"com/example/sagasu/sagasu/RowRunsCellsPinLaw", "width", "(J)I"⟩ : MethodName)) hown (mvT hZ (hw _ (List.mem_of_getElem? (i := 5) rfl))) (mvT hZ (hw _ (List.mem_of_getElem? (i := 6) rfl))) (mvT hZ (hw _ (List.mem_of_getElem? (i := 2) rfl))) (mvT hZ (hw _ (List.mem_of_getElem? (i := 7) rfl))) (by decide) (backOf (W := 1) (rm2 l Z a0 hw [] p2 h0 n0 Z0 ) hZ (hw _ (List.mem_of_getElem? (i := 7) rfl)) (hw _ (List.mem_of_getElem? (i := 2) rfl)) (by decide) (by decide)) (g := (mkF m 41 #[.val (.long p0), .second, .val (.long p1), .second, .val (.long p2), .second, .val (.int p3), .val (.int (Int32.ofNat fs0)), .val (.int (Int32.ofNat (fs0 + wd0))), .val (.int (Int32.ofNat fs1)), .val (.int (Int32.ofNat (fs1 + wd1))), .val (.int (Int32.ofNat fs2)), .unset, .unset, .unset, .unset, .unset, .unset, .unset, .unset, .unset, .unset, .unset, .unset, .unset, .unset, .unset, .unset] [(.long p2), (.int (Int32.ofNat fs2))])) rfl (by rw [hml]; rfl) (argsL := [(.long p2)]) (rest := [(.int (Int32.ofNat fs2))]) (lenOf pd_0 rfl) rfl (by show 2 * 0 + _ ≤ _; exact Nat.le_of_eq rfl) (own_hb hby at_41) (fun _ _ => ⟨rfl, hh135, (by decide : 0 + 0 ≤ _), (by decide : 0 + 0 ≤ _)⟩)
  dsimp only [Pt.U, Pt.locs, Pt.cells, Pt.slots] at X136 l136 y136 z136 st136 hQ136
  subst l136 y136 z136
  obtain ⟨rfl, N136q, hh136⟩ := hQ136
  have N136 := Fr.app N135 N136q
  refine own_Go.of (S' := (T136.setTop (mkF m 44 #[.val (.long p0), .second, .val (.long p1), .second, .val (.long p2), .second, .val (.int p3), .val (.int (Int32.ofNat fs0)), .val (.int (Int32.ofNat (fs0 + wd0))), .val (.int (Int32.ofNat fs1)), .val (.int (Int32.ofNat (fs1 + wd1))), .val (.int (Int32.ofNat fs2)), .unset, .unset, .unset, .unset, .unset, .unset, .unset, .unset, .unset, .unset, .unset, .unset, .unset, .unset, .unset, .unset] [(.int (own_width p2)), (.int (Int32.ofNat fs2))]))) (fun t kt => st136 t kt) ?_
  refine own_Go.of (S' := (T136.setTop (mkF m 65 #[.val (.long p0), .second, .val (.long p1), .second, .val (.long p2), .second, .val (.int p3), .val (.int (Int32.ofNat fs0)), .val (.int (Int32.ofNat (fs0 + wd0))), .val (.int (Int32.ofNat fs1)), .val (.int (Int32.ofNat (fs1 + wd1))), .val (.int (Int32.ofNat fs2)), .val (.int (Int32.ofNat (fs2 + wd2))), .val (.int (Int32.ofNat x1)), .val (.int (Int32.ofNat y1)), .unset, .unset, .unset, .unset, .unset, .unset, .unset, .unset, .unset, .unset, .unset, .unset, .unset] [(.int (Int32.ofNat y1)), (.int (Int32.ofNat x1))]))) (fun t kt => ?_) ?_
  · show Steps p.tables e below (T136.setTop (mkF m 44 #[.val (.long p0), .second, .val (.long p1), .second, .val (.long p2), .second, .val (.int p3), .val (.int (Int32.ofNat fs0)), .val (.int (Int32.ofNat (fs0 + wd0))), .val (.int (Int32.ofNat fs1)), .val (.int (Int32.ofNat (fs1 + wd1))), .val (.int (Int32.ofNat fs2)), .unset, .unset, .unset, .unset, .unset, .unset, .unset, .unset, .unset, .unset, .unset, .unset, .unset, .unset, .unset, .unset] [(.int (own_width p2)), (.int (Int32.ofNat fs2))])) _
    rw [eb2]
    show Steps p.tables e below (T136.setTop (mkF m 44 #[.val (.long p0), .second, .val (.long p1), .second, .val (.long p2), .second, .val (.int p3), .val (.int (Int32.ofNat fs0)), .val (.int (Int32.ofNat (fs0 + wd0))), .val (.int (Int32.ofNat fs1)), .val (.int (Int32.ofNat (fs1 + wd1))), .val (.int (Int32.ofNat fs2)), .unset, .unset, .unset, .unset, .unset, .unset, .unset, .unset, .unset, .unset, .unset, .unset, .unset, .unset, .unset, .unset] [(.int (Int32.ofNat wd2)), (.int (Int32.ofNat fs2))])) _
    refine XS.iadd X136.here hx rfl (own_hb hby at_44) rfl ?_
    show Steps p.tables e below (T136.setTop (mkF m 45 #[.val (.long p0), .second, .val (.long p1), .second, .val (.long p2), .second, .val (.int p3), .val (.int (Int32.ofNat fs0)), .val (.int (Int32.ofNat (fs0 + wd0))), .val (.int (Int32.ofNat fs1)), .val (.int (Int32.ofNat (fs1 + wd1))), .val (.int (Int32.ofNat fs2)), .unset, .unset, .unset, .unset, .unset, .unset, .unset, .unset, .unset, .unset, .unset, .unset, .unset, .unset, .unset, .unset] [(.int ((Int32.ofNat fs2) + (Int32.ofNat wd2)))])) _
    rw [own_addN fs2 wd2]
    show Steps p.tables e below (T136.setTop (mkF m 45 #[.val (.long p0), .second, .val (.long p1), .second, .val (.long p2), .second, .val (.int p3), .val (.int (Int32.ofNat fs0)), .val (.int (Int32.ofNat (fs0 + wd0))), .val (.int (Int32.ofNat fs1)), .val (.int (Int32.ofNat (fs1 + wd1))), .val (.int (Int32.ofNat fs2)), .unset, .unset, .unset, .unset, .unset, .unset, .unset, .unset, .unset, .unset, .unset, .unset, .unset, .unset, .unset, .unset] [(.int (Int32.ofNat (fs2 + wd2)))])) _
    refine XS.istore X136.here hx rfl (own_hb hby at_45) rfl (l' := #[.val (.long p0), .second, .val (.long p1), .second, .val (.long p2), .second, .val (.int p3), .val (.int (Int32.ofNat fs0)), .val (.int (Int32.ofNat (fs0 + wd0))), .val (.int (Int32.ofNat fs1)), .val (.int (Int32.ofNat (fs1 + wd1))), .val (.int (Int32.ofNat fs2)), .val (.int (Int32.ofNat (fs2 + wd2))), .unset, .unset, .unset, .unset, .unset, .unset, .unset, .unset, .unset, .unset, .unset, .unset, .unset, .unset, .unset]) rfl ?_
    show Steps p.tables e below (T136.setTop (mkF m 47 #[.val (.long p0), .second, .val (.long p1), .second, .val (.long p2), .second, .val (.int p3), .val (.int (Int32.ofNat fs0)), .val (.int (Int32.ofNat (fs0 + wd0))), .val (.int (Int32.ofNat fs1)), .val (.int (Int32.ofNat (fs1 + wd1))), .val (.int (Int32.ofNat fs2)), .val (.int (Int32.ofNat (fs2 + wd2))), .unset, .unset, .unset, .unset, .unset, .unset, .unset, .unset, .unset, .unset, .unset, .unset, .unset, .unset, .unset] [])) _
    refine XS.iload X136.here hx rfl (own_hb hby at_47) rfl ?_
    show Steps p.tables e below (T136.setTop (mkF m 49 #[.val (.long p0), .second, .val (.long p1), .second, .val (.long p2), .second, .val (.int p3), .val (.int (Int32.ofNat fs0)), .val (.int (Int32.ofNat (fs0 + wd0))), .val (.int (Int32.ofNat fs1)), .val (.int (Int32.ofNat (fs1 + wd1))), .val (.int (Int32.ofNat fs2)), .val (.int (Int32.ofNat (fs2 + wd2))), .unset, .unset, .unset, .unset, .unset, .unset, .unset, .unset, .unset, .unset, .unset, .unset, .unset, .unset, .unset] [(.int p3)])) _
    refine XS.iconst X136.here hx rfl (own_hb hby at_49) ?_
    show Steps p.tables e below (T136.setTop (mkF m 50 #[.val (.long p0), .second, .val (.long p1), .second, .val (.long p2), .second, .val (.int p3), .val (.int (Int32.ofNat fs0)), .val (.int (Int32.ofNat (fs0 + wd0))), .val (.int (Int32.ofNat fs1)), .val (.int (Int32.ofNat (fs1 + wd1))), .val (.int (Int32.ofNat fs2)), .val (.int (Int32.ofNat (fs2 + wd2))), .unset, .unset, .unset, .unset, .unset, .unset, .unset, .unset, .unset, .unset, .unset, .unset, .unset, .unset, .unset] [(.int (3 : Int32)), (.int p3)])) _
    refine XS.iand X136.here hx rfl (own_hb hby at_50) rfl ?_
    show Steps p.tables e below (T136.setTop (mkF m 51 #[.val (.long p0), .second, .val (.long p1), .second, .val (.long p2), .second, .val (.int p3), .val (.int (Int32.ofNat fs0)), .val (.int (Int32.ofNat (fs0 + wd0))), .val (.int (Int32.ofNat fs1)), .val (.int (Int32.ofNat (fs1 + wd1))), .val (.int (Int32.ofNat fs2)), .val (.int (Int32.ofNat (fs2 + wd2))), .unset, .unset, .unset, .unset, .unset, .unset, .unset, .unset, .unset, .unset, .unset, .unset, .unset, .unset, .unset] [(.int (p3 &&& (3 : Int32)))])) _
    rw [ex1]
    show Steps p.tables e below (T136.setTop (mkF m 51 #[.val (.long p0), .second, .val (.long p1), .second, .val (.long p2), .second, .val (.int p3), .val (.int (Int32.ofNat fs0)), .val (.int (Int32.ofNat (fs0 + wd0))), .val (.int (Int32.ofNat fs1)), .val (.int (Int32.ofNat (fs1 + wd1))), .val (.int (Int32.ofNat fs2)), .val (.int (Int32.ofNat (fs2 + wd2))), .unset, .unset, .unset, .unset, .unset, .unset, .unset, .unset, .unset, .unset, .unset, .unset, .unset, .unset, .unset] [(.int (Int32.ofNat x1))])) _
    refine XS.istore X136.here hx rfl (own_hb hby at_51) rfl (l' := #[.val (.long p0), .second, .val (.long p1), .second, .val (.long p2), .second, .val (.int p3), .val (.int (Int32.ofNat fs0)), .val (.int (Int32.ofNat (fs0 + wd0))), .val (.int (Int32.ofNat fs1)), .val (.int (Int32.ofNat (fs1 + wd1))), .val (.int (Int32.ofNat fs2)), .val (.int (Int32.ofNat (fs2 + wd2))), .val (.int (Int32.ofNat x1)), .unset, .unset, .unset, .unset, .unset, .unset, .unset, .unset, .unset, .unset, .unset, .unset, .unset, .unset]) rfl ?_
    show Steps p.tables e below (T136.setTop (mkF m 53 #[.val (.long p0), .second, .val (.long p1), .second, .val (.long p2), .second, .val (.int p3), .val (.int (Int32.ofNat fs0)), .val (.int (Int32.ofNat (fs0 + wd0))), .val (.int (Int32.ofNat fs1)), .val (.int (Int32.ofNat (fs1 + wd1))), .val (.int (Int32.ofNat fs2)), .val (.int (Int32.ofNat (fs2 + wd2))), .val (.int (Int32.ofNat x1)), .unset, .unset, .unset, .unset, .unset, .unset, .unset, .unset, .unset, .unset, .unset, .unset, .unset, .unset] [])) _
    refine XS.iload X136.here hx rfl (own_hb hby at_53) rfl ?_
    show Steps p.tables e below (T136.setTop (mkF m 55 #[.val (.long p0), .second, .val (.long p1), .second, .val (.long p2), .second, .val (.int p3), .val (.int (Int32.ofNat fs0)), .val (.int (Int32.ofNat (fs0 + wd0))), .val (.int (Int32.ofNat fs1)), .val (.int (Int32.ofNat (fs1 + wd1))), .val (.int (Int32.ofNat fs2)), .val (.int (Int32.ofNat (fs2 + wd2))), .val (.int (Int32.ofNat x1)), .unset, .unset, .unset, .unset, .unset, .unset, .unset, .unset, .unset, .unset, .unset, .unset, .unset, .unset] [(.int p3)])) _
    refine XS.iconst X136.here hx rfl (own_hb hby at_55) ?_
    show Steps p.tables e below (T136.setTop (mkF m 56 #[.val (.long p0), .second, .val (.long p1), .second, .val (.long p2), .second, .val (.int p3), .val (.int (Int32.ofNat fs0)), .val (.int (Int32.ofNat (fs0 + wd0))), .val (.int (Int32.ofNat fs1)), .val (.int (Int32.ofNat (fs1 + wd1))), .val (.int (Int32.ofNat fs2)), .val (.int (Int32.ofNat (fs2 + wd2))), .val (.int (Int32.ofNat x1)), .unset, .unset, .unset, .unset, .unset, .unset, .unset, .unset, .unset, .unset, .unset, .unset, .unset, .unset] [(.int (2 : Int32)), (.int p3)])) _
    refine XS.iushr X136.here hx rfl (own_hb hby at_56) rfl ?_
    show Steps p.tables e below (T136.setTop (mkF m 57 #[.val (.long p0), .second, .val (.long p1), .second, .val (.long p2), .second, .val (.int p3), .val (.int (Int32.ofNat fs0)), .val (.int (Int32.ofNat (fs0 + wd0))), .val (.int (Int32.ofNat fs1)), .val (.int (Int32.ofNat (fs1 + wd1))), .val (.int (Int32.ofNat fs2)), .val (.int (Int32.ofNat (fs2 + wd2))), .val (.int (Int32.ofNat x1)), .unset, .unset, .unset, .unset, .unset, .unset, .unset, .unset, .unset, .unset, .unset, .unset, .unset, .unset] [(.int ((p3.toUInt32 >>> ((2 : Int32) &&& 31).toUInt32).toInt32))])) _
    refine XS.iconst X136.here hx rfl (own_hb hby at_57) ?_
    show Steps p.tables e below (T136.setTop (mkF m 58 #[.val (.long p0), .second, .val (.long p1), .second, .val (.long p2), .second, .val (.int p3), .val (.int (Int32.ofNat fs0)), .val (.int (Int32.ofNat (fs0 + wd0))), .val (.int (Int32.ofNat fs1)), .val (.int (Int32.ofNat (fs1 + wd1))), .val (.int (Int32.ofNat fs2)), .val (.int (Int32.ofNat (fs2 + wd2))), .val (.int (Int32.ofNat x1)), .unset, .unset, .unset, .unset, .unset, .unset, .unset, .unset, .unset, .unset, .unset, .unset, .unset, .unset] [(.int (3 : Int32)), (.int ((p3.toUInt32 >>> ((2 : Int32) &&& 31).toUInt32).toInt32))])) _
    refine XS.iand X136.here hx rfl (own_hb hby at_58) rfl ?_
    show Steps p.tables e below (T136.setTop (mkF m 59 #[.val (.long p0), .second, .val (.long p1), .second, .val (.long p2), .second, .val (.int p3), .val (.int (Int32.ofNat fs0)), .val (.int (Int32.ofNat (fs0 + wd0))), .val (.int (Int32.ofNat fs1)), .val (.int (Int32.ofNat (fs1 + wd1))), .val (.int (Int32.ofNat fs2)), .val (.int (Int32.ofNat (fs2 + wd2))), .val (.int (Int32.ofNat x1)), .unset, .unset, .unset, .unset, .unset, .unset, .unset, .unset, .unset, .unset, .unset, .unset, .unset, .unset] [(.int (((p3.toUInt32 >>> ((2 : Int32) &&& 31).toUInt32).toInt32) &&& (3 : Int32)))])) _
    rw [ey1]
    show Steps p.tables e below (T136.setTop (mkF m 59 #[.val (.long p0), .second, .val (.long p1), .second, .val (.long p2), .second, .val (.int p3), .val (.int (Int32.ofNat fs0)), .val (.int (Int32.ofNat (fs0 + wd0))), .val (.int (Int32.ofNat fs1)), .val (.int (Int32.ofNat (fs1 + wd1))), .val (.int (Int32.ofNat fs2)), .val (.int (Int32.ofNat (fs2 + wd2))), .val (.int (Int32.ofNat x1)), .unset, .unset, .unset, .unset, .unset, .unset, .unset, .unset, .unset, .unset, .unset, .unset, .unset, .unset] [(.int (Int32.ofNat y1))])) _
    refine XS.istore X136.here hx rfl (own_hb hby at_59) rfl (l' := #[.val (.long p0), .second, .val (.long p1), .second, .val (.long p2), .second, .val (.int p3), .val (.int (Int32.ofNat fs0)), .val (.int (Int32.ofNat (fs0 + wd0))), .val (.int (Int32.ofNat fs1)), .val (.int (Int32.ofNat (fs1 + wd1))), .val (.int (Int32.ofNat fs2)), .val (.int (Int32.ofNat (fs2 + wd2))), .val (.int (Int32.ofNat x1)), .val (.int (Int32.ofNat y1)), .unset, .unset, .unset, .unset, .unset, .unset, .unset, .unset, .unset, .unset, .unset, .unset, .unset]) rfl ?_
    show Steps p.tables e below (T136.setTop (mkF m 61 #[.val (.long p0), .second, .val (.long p1), .second, .val (.long p2), .second, .val (.int p3), .val (.int (Int32.ofNat fs0)), .val (.int (Int32.ofNat (fs0 + wd0))), .val (.int (Int32.ofNat fs1)), .val (.int (Int32.ofNat (fs1 + wd1))), .val (.int (Int32.ofNat fs2)), .val (.int (Int32.ofNat (fs2 + wd2))), .val (.int (Int32.ofNat x1)), .val (.int (Int32.ofNat y1)), .unset, .unset, .unset, .unset, .unset, .unset, .unset, .unset, .unset, .unset, .unset, .unset, .unset] [])) _
    refine XS.iload X136.here hx rfl (own_hb hby at_61) rfl ?_
    show Steps p.tables e below (T136.setTop (mkF m 63 #[.val (.long p0), .second, .val (.long p1), .second, .val (.long p2), .second, .val (.int p3), .val (.int (Int32.ofNat fs0)), .val (.int (Int32.ofNat (fs0 + wd0))), .val (.int (Int32.ofNat fs1)), .val (.int (Int32.ofNat (fs1 + wd1))), .val (.int (Int32.ofNat fs2)), .val (.int (Int32.ofNat (fs2 + wd2))), .val (.int (Int32.ofNat x1)), .val (.int (Int32.ofNat y1)), .unset, .unset, .unset, .unset, .unset, .unset, .unset, .unset, .unset, .unset, .unset, .unset, .unset] [(.int (Int32.ofNat x1))])) _
    refine XS.iload X136.here hx rfl (own_hb hby at_63) rfl ?_
    exact kt
  obtain ⟨_, _, ⟨T137, L137, k137, n137⟩, -, X137, ⟨Lc137, hQ137, l137, y137, z137⟩, st137⟩ := Jvm.LawKit.callS X136 hx (y := (⟨"java/lang/Math", "min", "(II)I"⟩ : MethodName)) hown (mvT hZ (hw _ (List.mem_of_getElem? (i := 8) rfl))) (mvT hZ (hw _ (List.mem_of_getElem? (i := 9) rfl))) (mvT hZ (hw _ (List.mem_of_getElem? (i := 10) rfl))) (mvT hZ (hw _ (List.mem_of_getElem? (i := 11) rfl))) (by decide) (backOf (W := 0) (rm3 l Z a0 hw [] x1 y1 h0 n0 Z0 (by omega) (by omega)) hZ (hw _ (List.mem_of_getElem? (i := 11) rfl)) (hw _ (List.mem_of_getElem? (i := 10) rfl)) (by decide) (by decide)) (g := (mkF m 65 #[.val (.long p0), .second, .val (.long p1), .second, .val (.long p2), .second, .val (.int p3), .val (.int (Int32.ofNat fs0)), .val (.int (Int32.ofNat (fs0 + wd0))), .val (.int (Int32.ofNat fs1)), .val (.int (Int32.ofNat (fs1 + wd1))), .val (.int (Int32.ofNat fs2)), .val (.int (Int32.ofNat (fs2 + wd2))), .val (.int (Int32.ofNat x1)), .val (.int (Int32.ofNat y1)), .unset, .unset, .unset, .unset, .unset, .unset, .unset, .unset, .unset, .unset, .unset, .unset, .unset] [(.int (Int32.ofNat y1)), (.int (Int32.ofNat x1))])) rfl (by rw [hml]; rfl) (argsL := [(.int (Int32.ofNat x1)), (.int (Int32.ofNat y1))]) (rest := []) (lenOf pd_1 rfl) rfl (by show 2 * 0 + _ ≤ _; exact Nat.le_of_eq rfl) (own_hb hby at_65) (fun _ _ => ⟨rfl, hh136, (by decide : 0 + 0 ≤ _), (by decide : 0 + 0 ≤ _)⟩)
  dsimp only [Pt.U, Pt.locs, Pt.cells, Pt.slots] at X137 l137 y137 z137 st137 hQ137
  subst l137 y137 z137
  obtain ⟨rfl, N137q, hh137⟩ := hQ137
  have N137 := Fr.app N136 N137q
  refine own_Go.of (S' := (T137.setTop (mkF m 68 #[.val (.long p0), .second, .val (.long p1), .second, .val (.long p2), .second, .val (.int p3), .val (.int (Int32.ofNat fs0)), .val (.int (Int32.ofNat (fs0 + wd0))), .val (.int (Int32.ofNat fs1)), .val (.int (Int32.ofNat (fs1 + wd1))), .val (.int (Int32.ofNat fs2)), .val (.int (Int32.ofNat (fs2 + wd2))), .val (.int (Int32.ofNat x1)), .val (.int (Int32.ofNat y1)), .unset, .unset, .unset, .unset, .unset, .unset, .unset, .unset, .unset, .unset, .unset, .unset, .unset] [(.int (Int32.ofNat (min x1 y1)))]))) (fun t kt => st137 t kt) ?_
  refine own_Go.of (S' := (T137.setTop (mkF m 74 #[.val (.long p0), .second, .val (.long p1), .second, .val (.long p2), .second, .val (.int p3), .val (.int (Int32.ofNat fs0)), .val (.int (Int32.ofNat (fs0 + wd0))), .val (.int (Int32.ofNat fs1)), .val (.int (Int32.ofNat (fs1 + wd1))), .val (.int (Int32.ofNat fs2)), .val (.int (Int32.ofNat (fs2 + wd2))), .val (.int (Int32.ofNat x1)), .val (.int (Int32.ofNat y1)), .val (.int (Int32.ofNat lo)), .unset, .unset, .unset, .unset, .unset, .unset, .unset, .unset, .unset, .unset, .unset, .unset] [(.int (Int32.ofNat y1)), (.int (Int32.ofNat x1))]))) (fun t kt => ?_) ?_
  · show Steps p.tables e below (T137.setTop (mkF m 68 #[.val (.long p0), .second, .val (.long p1), .second, .val (.long p2), .second, .val (.int p3), .val (.int (Int32.ofNat fs0)), .val (.int (Int32.ofNat (fs0 + wd0))), .val (.int (Int32.ofNat fs1)), .val (.int (Int32.ofNat (fs1 + wd1))), .val (.int (Int32.ofNat fs2)), .val (.int (Int32.ofNat (fs2 + wd2))), .val (.int (Int32.ofNat x1)), .val (.int (Int32.ofNat y1)), .unset, .unset, .unset, .unset, .unset, .unset, .unset, .unset, .unset, .unset, .unset, .unset, .unset] [(.int (Int32.ofNat (min x1 y1)))])) _
    rw [← hlo]
    show Steps p.tables e below (T137.setTop (mkF m 68 #[.val (.long p0), .second, .val (.long p1), .second, .val (.long p2), .second, .val (.int p3), .val (.int (Int32.ofNat fs0)), .val (.int (Int32.ofNat (fs0 + wd0))), .val (.int (Int32.ofNat fs1)), .val (.int (Int32.ofNat (fs1 + wd1))), .val (.int (Int32.ofNat fs2)), .val (.int (Int32.ofNat (fs2 + wd2))), .val (.int (Int32.ofNat x1)), .val (.int (Int32.ofNat y1)), .unset, .unset, .unset, .unset, .unset, .unset, .unset, .unset, .unset, .unset, .unset, .unset, .unset] [(.int (Int32.ofNat lo))])) _
    refine XS.istore X137.here hx rfl (own_hb hby at_68) rfl (l' := #[.val (.long p0), .second, .val (.long p1), .second, .val (.long p2), .second, .val (.int p3), .val (.int (Int32.ofNat fs0)), .val (.int (Int32.ofNat (fs0 + wd0))), .val (.int (Int32.ofNat fs1)), .val (.int (Int32.ofNat (fs1 + wd1))), .val (.int (Int32.ofNat fs2)), .val (.int (Int32.ofNat (fs2 + wd2))), .val (.int (Int32.ofNat x1)), .val (.int (Int32.ofNat y1)), .val (.int (Int32.ofNat lo)), .unset, .unset, .unset, .unset, .unset, .unset, .unset, .unset, .unset, .unset, .unset, .unset]) rfl ?_
    show Steps p.tables e below (T137.setTop (mkF m 70 #[.val (.long p0), .second, .val (.long p1), .second, .val (.long p2), .second, .val (.int p3), .val (.int (Int32.ofNat fs0)), .val (.int (Int32.ofNat (fs0 + wd0))), .val (.int (Int32.ofNat fs1)), .val (.int (Int32.ofNat (fs1 + wd1))), .val (.int (Int32.ofNat fs2)), .val (.int (Int32.ofNat (fs2 + wd2))), .val (.int (Int32.ofNat x1)), .val (.int (Int32.ofNat y1)), .val (.int (Int32.ofNat lo)), .unset, .unset, .unset, .unset, .unset, .unset, .unset, .unset, .unset, .unset, .unset, .unset] [])) _
    refine XS.iload X137.here hx rfl (own_hb hby at_70) rfl ?_
    show Steps p.tables e below (T137.setTop (mkF m 72 #[.val (.long p0), .second, .val (.long p1), .second, .val (.long p2), .second, .val (.int p3), .val (.int (Int32.ofNat fs0)), .val (.int (Int32.ofNat (fs0 + wd0))), .val (.int (Int32.ofNat fs1)), .val (.int (Int32.ofNat (fs1 + wd1))), .val (.int (Int32.ofNat fs2)), .val (.int (Int32.ofNat (fs2 + wd2))), .val (.int (Int32.ofNat x1)), .val (.int (Int32.ofNat y1)), .val (.int (Int32.ofNat lo)), .unset, .unset, .unset, .unset, .unset, .unset, .unset, .unset, .unset, .unset, .unset, .unset] [(.int (Int32.ofNat x1))])) _
    refine XS.iload X137.here hx rfl (own_hb hby at_72) rfl ?_
    exact kt
  obtain ⟨_, _, ⟨T138, L138, k138, n138⟩, -, X138, ⟨Lc138, hQ138, l138, y138, z138⟩, st138⟩ := Jvm.LawKit.callS X137 hx (y := (⟨"java/lang/Math", "max", "(II)I"⟩ : MethodName)) hown (mvT hZ (hw _ (List.mem_of_getElem? (i := 12) rfl))) (mvT hZ (hw _ (List.mem_of_getElem? (i := 13) rfl))) (mvT hZ (hw _ (List.mem_of_getElem? (i := 10) rfl))) (mvT hZ (hw _ (List.mem_of_getElem? (i := 14) rfl))) (by decide) (backOf (W := 0) (rm4 l Z a0 hw [] x1 y1 h0 n0 Z0 (by omega) (by omega)) hZ (hw _ (List.mem_of_getElem? (i := 14) rfl)) (hw _ (List.mem_of_getElem? (i := 10) rfl)) (by decide) (by decide)) (g := (mkF m 74 #[.val (.long p0), .second, .val (.long p1), .second, .val (.long p2), .second, .val (.int p3), .val (.int (Int32.ofNat fs0)), .val (.int (Int32.ofNat (fs0 + wd0))), .val (.int (Int32.ofNat fs1)), .val (.int (Int32.ofNat (fs1 + wd1))), .val (.int (Int32.ofNat fs2)), .val (.int (Int32.ofNat (fs2 + wd2))), .val (.int (Int32.ofNat x1)), .val (.int (Int32.ofNat y1)), .val (.int (Int32.ofNat lo)), .unset, .unset, .unset, .unset, .unset, .unset, .unset, .unset, .unset, .unset, .unset, .unset] [(.int (Int32.ofNat y1)), (.int (Int32.ofNat x1))])) rfl (by rw [hml]; rfl) (argsL := [(.int (Int32.ofNat x1)), (.int (Int32.ofNat y1))]) (rest := []) (lenOf pd_1 rfl) rfl (by show 2 * 0 + _ ≤ _; exact Nat.le_of_eq rfl) (own_hb hby at_74) (fun _ _ => ⟨rfl, hh137, (by decide : 0 + 0 ≤ _), (by decide : 0 + 0 ≤ _)⟩)
  dsimp only [Pt.U, Pt.locs, Pt.cells, Pt.slots] at X138 l138 y138 z138 st138 hQ138
  subst l138 y138 z138
  obtain ⟨rfl, N138q, hh138⟩ := hQ138
  have N138 := Fr.app N137 N138q
  refine own_Go.of (S' := (T138.setTop (mkF m 77 #[.val (.long p0), .second, .val (.long p1), .second, .val (.long p2), .second, .val (.int p3), .val (.int (Int32.ofNat fs0)), .val (.int (Int32.ofNat (fs0 + wd0))), .val (.int (Int32.ofNat fs1)), .val (.int (Int32.ofNat (fs1 + wd1))), .val (.int (Int32.ofNat fs2)), .val (.int (Int32.ofNat (fs2 + wd2))), .val (.int (Int32.ofNat x1)), .val (.int (Int32.ofNat y1)), .val (.int (Int32.ofNat lo)), .unset, .unset, .unset, .unset, .unset, .unset, .unset, .unset, .unset, .unset, .unset, .unset] [(.int (Int32.ofNat (max x1 y1)))]))) (fun t kt => st138 t kt) ?_
  refine own_Go.of (S' := (T138.setTop (mkF m 79 #[.val (.long p0), .second, .val (.long p1), .second, .val (.long p2), .second, .val (.int p3), .val (.int (Int32.ofNat fs0)), .val (.int (Int32.ofNat (fs0 + wd0))), .val (.int (Int32.ofNat fs1)), .val (.int (Int32.ofNat (fs1 + wd1))), .val (.int (Int32.ofNat fs2)), .val (.int (Int32.ofNat (fs2 + wd2))), .val (.int (Int32.ofNat x1)), .val (.int (Int32.ofNat y1)), .val (.int (Int32.ofNat lo)), .val (.int (Int32.ofNat hi)), .unset, .unset, .unset, .unset, .unset, .unset, .unset, .unset, .unset, .unset, .unset] []))) (fun t kt => ?_) ?_
  · show Steps p.tables e below (T138.setTop (mkF m 77 #[.val (.long p0), .second, .val (.long p1), .second, .val (.long p2), .second, .val (.int p3), .val (.int (Int32.ofNat fs0)), .val (.int (Int32.ofNat (fs0 + wd0))), .val (.int (Int32.ofNat fs1)), .val (.int (Int32.ofNat (fs1 + wd1))), .val (.int (Int32.ofNat fs2)), .val (.int (Int32.ofNat (fs2 + wd2))), .val (.int (Int32.ofNat x1)), .val (.int (Int32.ofNat y1)), .val (.int (Int32.ofNat lo)), .unset, .unset, .unset, .unset, .unset, .unset, .unset, .unset, .unset, .unset, .unset, .unset] [(.int (Int32.ofNat (max x1 y1)))])) _
    rw [← hhi]
    show Steps p.tables e below (T138.setTop (mkF m 77 #[.val (.long p0), .second, .val (.long p1), .second, .val (.long p2), .second, .val (.int p3), .val (.int (Int32.ofNat fs0)), .val (.int (Int32.ofNat (fs0 + wd0))), .val (.int (Int32.ofNat fs1)), .val (.int (Int32.ofNat (fs1 + wd1))), .val (.int (Int32.ofNat fs2)), .val (.int (Int32.ofNat (fs2 + wd2))), .val (.int (Int32.ofNat x1)), .val (.int (Int32.ofNat y1)), .val (.int (Int32.ofNat lo)), .unset, .unset, .unset, .unset, .unset, .unset, .unset, .unset, .unset, .unset, .unset, .unset] [(.int (Int32.ofNat hi))])) _
    refine XS.istore X138.here hx rfl (own_hb hby at_77) rfl (l' := #[.val (.long p0), .second, .val (.long p1), .second, .val (.long p2), .second, .val (.int p3), .val (.int (Int32.ofNat fs0)), .val (.int (Int32.ofNat (fs0 + wd0))), .val (.int (Int32.ofNat fs1)), .val (.int (Int32.ofNat (fs1 + wd1))), .val (.int (Int32.ofNat fs2)), .val (.int (Int32.ofNat (fs2 + wd2))), .val (.int (Int32.ofNat x1)), .val (.int (Int32.ofNat y1)), .val (.int (Int32.ofNat lo)), .val (.int (Int32.ofNat hi)), .unset, .unset, .unset, .unset, .unset, .unset, .unset, .unset, .unset, .unset, .unset]) rfl ?_
    exact kt
  obtain ⟨T139, h139, X139, e139, E139, A139, D139, -, st139⟩ := newO X138 hx hZ hown (hw _ (List.mem_of_getElem? (i := 15) rfl)) (hw _ (List.mem_of_getElem? (i := 16) rfl)) (hw _ (List.mem_of_getElem? (i := 17) rfl)) hh138 (g := (mkF m 79 #[.val (.long p0), .second, .val (.long p1), .second, .val (.long p2), .second, .val (.int p3), .val (.int (Int32.ofNat fs0)), .val (.int (Int32.ofNat (fs0 + wd0))), .val (.int (Int32.ofNat fs1)), .val (.int (Int32.ofNat (fs1 + wd1))), .val (.int (Int32.ofNat fs2)), .val (.int (Int32.ofNat (fs2 + wd2))), .val (.int (Int32.ofNat x1)), .val (.int (Int32.ofNat y1)), .val (.int (Int32.ofNat lo)), .val (.int (Int32.ofNat hi)), .unset, .unset, .unset, .unset, .unset, .unset, .unset, .unset, .unset, .unset, .unset] [])) rfl (own_hb hby at_79) (by decide) (by decide)
  obtain ⟨b139, g139⟩ : ∃ z, z = h0.size := ⟨_, rfl⟩
  rw [← g139] at A139 D139 st139
  have gx139 : n0 ≤ b139 := Nat.le_trans Z0 (Nat.le_of_eq g139.symm)
  refine own_Go.of (S' := (T139.setTop (mkF m 82 #[.val (.long p0), .second, .val (.long p1), .second, .val (.long p2), .second, .val (.int p3), .val (.int (Int32.ofNat fs0)), .val (.int (Int32.ofNat (fs0 + wd0))), .val (.int (Int32.ofNat fs1)), .val (.int (Int32.ofNat (fs1 + wd1))), .val (.int (Int32.ofNat fs2)), .val (.int (Int32.ofNat (fs2 + wd2))), .val (.int (Int32.ofNat x1)), .val (.int (Int32.ofNat y1)), .val (.int (Int32.ofNat lo)), .val (.int (Int32.ofNat hi)), .unset, .unset, .unset, .unset, .unset, .unset, .unset, .unset, .unset, .unset, .unset] [(.ref b139)]))) st139 ?_
  have z140 : n0 ≤ h139.size := Nat.le_trans Z0 E139.1
  have f141 : Fld Z h139 b139 "com/example/sagasu/sagasu/Grid$RowRuns" "rows" "[I" .null := D139 (Or.inl (hw _ (List.mem_of_getElem? (i := 26) rfl))) (ty := (.array .int)) (by decide)
  have f142 : Fld Z h139 b139 "com/example/sagasu/sagasu/Grid$RowRuns" "firstColumns" "[I" .null := D139 (Or.inl (hw _ (List.mem_of_getElem? (i := 28) rfl))) (ty := (.array .int)) (by decide)
  have f143 : Fld Z h139 b139 "com/example/sagasu/sagasu/Grid$RowRuns" "lastColumns" "[I" .null := D139 (Or.inl (hw _ (List.mem_of_getElem? (i := 30) rfl))) (ty := (.array .int)) (by decide)
  have f144 : Fld Z h139 b139 "com/example/sagasu/sagasu/Grid$RowRuns" "size" "I" (.int (0 : Int32)) := D139 (Or.inl (hw _ (List.mem_of_getElem? (i := 37) rfl))) (ty := .int) (by decide)
  refine own_Go.of (S' := (T139.setTop (mkF m 83 #[.val (.long p0), .second, .val (.long p1), .second, .val (.long p2), .second, .val (.int p3), .val (.int (Int32.ofNat fs0)), .val (.int (Int32.ofNat (fs0 + wd0))), .val (.int (Int32.ofNat fs1)), .val (.int (Int32.ofNat (fs1 + wd1))), .val (.int (Int32.ofNat fs2)), .val (.int (Int32.ofNat (fs2 + wd2))), .val (.int (Int32.ofNat x1)), .val (.int (Int32.ofNat y1)), .val (.int (Int32.ofNat lo)), .val (.int (Int32.ofNat hi)), .unset, .unset, .unset, .unset, .unset, .unset, .unset, .unset, .unset, .unset, .unset] [(.ref b139), (.ref b139)]))) (fun t kt => ?_) ?_
  · show Steps p.tables e below (T139.setTop (mkF m 82 #[.val (.long p0), .second, .val (.long p1), .second, .val (.long p2), .second, .val (.int p3), .val (.int (Int32.ofNat fs0)), .val (.int (Int32.ofNat (fs0 + wd0))), .val (.int (Int32.ofNat fs1)), .val (.int (Int32.ofNat (fs1 + wd1))), .val (.int (Int32.ofNat fs2)), .val (.int (Int32.ofNat (fs2 + wd2))), .val (.int (Int32.ofNat x1)), .val (.int (Int32.ofNat y1)), .val (.int (Int32.ofNat lo)), .val (.int (Int32.ofNat hi)), .unset, .unset, .unset, .unset, .unset, .unset, .unset, .unset, .unset, .unset, .unset] [(.ref b139)])) _
    refine XS.dup X139.here hx rfl (own_hb hby at_82) rfl rfl ?_
    exact kt
  obtain ⟨_, _, ⟨T145, L145, k145, n145⟩, -, X145, ⟨Lc145, hQ145, l145, y145, z145⟩, st145⟩ := X139.specialBack hx (y := (⟨"com/example/sagasu/sagasu/Grid$RowRuns", "<init>", "()V"⟩ : MethodName)) rfl hown (mvT hZ (hw _ (List.mem_of_getElem? (i := 18) rfl))) (mvT hZ (hw _ (List.mem_of_getElem? (i := 19) rfl))) (mvT hZ (hw _ (List.mem_of_getElem? (i := 20) rfl))) (by decide) (backOf (W := 1) (rm5 l Z a0 hw [] b139 .null .null .null (0 : Int32) h139 n0 z140 A139 f141 f142 f143 f144 gx139) hZ (hw _ (List.mem_of_getElem? (i := 20) rfl)) (hw _ (List.mem_of_getElem? (i := 17) rfl)) (by decide) (by decide)) (g := (mkF m 83 #[.val (.long p0), .second, .val (.long p1), .second, .val (.long p2), .second, .val (.int p3), .val (.int (Int32.ofNat fs0)), .val (.int (Int32.ofNat (fs0 + wd0))), .val (.int (Int32.ofNat fs1)), .val (.int (Int32.ofNat (fs1 + wd1))), .val (.int (Int32.ofNat fs2)), .val (.int (Int32.ofNat (fs2 + wd2))), .val (.int (Int32.ofNat x1)), .val (.int (Int32.ofNat y1)), .val (.int (Int32.ofNat lo)), .val (.int (Int32.ofNat hi)), .unset, .unset, .unset, .unset, .unset, .unset, .unset, .unset, .unset, .unset, .unset] [(.ref b139), (.ref b139)])) rfl (by rw [hml]; rfl) (Steps.refl _) (a := b139) (argsL := []) (rest := [(.ref b139)]) (lenOf pd_2 rfl) rfl (by show 2 * 0 + _ ≤ _; exact Nat.le_of_eq rfl) (own_hb hby at_83) (fun _ _ => ⟨rfl, e139, (by decide : 1 + 3 ≤ _), (by decide : 4 + 192 ≤ _)⟩)
  dsimp only [Pt.U, Pt.locs, Pt.cells, Pt.slots] at X145 l145 y145 z145 st145 hQ145
  subst l145 y145 z145
  obtain ⟨r1145, r2145, r3145, rfl, N145q, K145, p145_0, p145_1, p145_2, p145_3, p145_4, p145_5, p145_6, p145_7, p145_8, p145_9, p145_10, p145_11, p145_12, p145_13⟩ := hQ145
  have N145 := Fr.app N138 N145q
  refine own_Go.of (S' := (T145.setTop (mkF m 86 #[.val (.long p0), .second, .val (.long p1), .second, .val (.long p2), .second, .val (.int p3), .val (.int (Int32.ofNat fs0)), .val (.int (Int32.ofNat (fs0 + wd0))), .val (.int (Int32.ofNat fs1)), .val (.int (Int32.ofNat (fs1 + wd1))), .val (.int (Int32.ofNat fs2)), .val (.int (Int32.ofNat (fs2 + wd2))), .val (.int (Int32.ofNat x1)), .val (.int (Int32.ofNat y1)), .val (.int (Int32.ofNat lo)), .val (.int (Int32.ofNat hi)), .unset, .unset, .unset, .unset, .unset, .unset, .unset, .unset, .unset, .unset, .unset] [(.ref b139)]))) (fun t kt => st145.trans kt) ?_
  have gx146 : n0 ≤ r1145 := Nat.le_trans z140 p145_0
  have ne147 : b139 ≠ r1145 := Nat.ne_of_lt (Nat.lt_of_lt_of_le A139.lt p145_0)
  have gx148 : n0 ≤ r2145 := Nat.le_trans z140 p145_1
  have ne149 : b139 ≠ r2145 := Nat.ne_of_lt (Nat.lt_of_lt_of_le A139.lt p145_1)
  have gx150 : n0 ≤ r3145 := Nat.le_trans z140 p145_2
  have ne151 : b139 ≠ r3145 := Nat.ne_of_lt (Nat.lt_of_lt_of_le A139.lt p145_2)
  have f152 : Exa Z T145.heap b139 "com/example/sagasu/sagasu/Grid$RowRuns" := A139.keep K145
  have z153 : n0 ≤ T145.heap.size := Nat.le_trans z140 K145.1
  refine own_Go.of (S' := (T145.setTop (mkF m 96 #[.val (.long p0), .second, .val (.long p1), .second, .val (.long p2), .second, .val (.int p3), .val (.int (Int32.ofNat fs0)), .val (.int (Int32.ofNat (fs0 + wd0))), .val (.int (Int32.ofNat fs1)), .val (.int (Int32.ofNat (fs1 + wd1))), .val (.int (Int32.ofNat fs2)), .val (.int (Int32.ofNat (fs2 + wd2))), .val (.int (Int32.ofNat x1)), .val (.int (Int32.ofNat y1)), .val (.int (Int32.ofNat lo)), .val (.int (Int32.ofNat hi)), .val (.ref b139), .unset, .unset, .unset, .unset, .unset, .unset, .unset, .unset, .unset, .unset] [(.int (Int32.ofNat (fs0 + wd0))), (.int (Int32.ofNat fs0)), (.int p3), (.ref b139)]))) (fun t kt => ?_) ?_
  · show Steps p.tables e below (T145.setTop (mkF m 86 #[.val (.long p0), .second, .val (.long p1), .second, .val (.long p2), .second, .val (.int p3), .val (.int (Int32.ofNat fs0)), .val (.int (Int32.ofNat (fs0 + wd0))), .val (.int (Int32.ofNat fs1)), .val (.int (Int32.ofNat (fs1 + wd1))), .val (.int (Int32.ofNat fs2)), .val (.int (Int32.ofNat (fs2 + wd2))), .val (.int (Int32.ofNat x1)), .val (.int (Int32.ofNat y1)), .val (.int (Int32.ofNat lo)), .val (.int (Int32.ofNat hi)), .unset, .unset, .unset, .unset, .unset, .unset, .unset, .unset, .unset, .unset, .unset] [(.ref b139)])) _
    refine XS.astore X145.here hx rfl (own_hb hby at_86) rfl rfl (l' := #[.val (.long p0), .second, .val (.long p1), .second, .val (.long p2), .second, .val (.int p3), .val (.int (Int32.ofNat fs0)), .val (.int (Int32.ofNat (fs0 + wd0))), .val (.int (Int32.ofNat fs1)), .val (.int (Int32.ofNat (fs1 + wd1))), .val (.int (Int32.ofNat fs2)), .val (.int (Int32.ofNat (fs2 + wd2))), .val (.int (Int32.ofNat x1)), .val (.int (Int32.ofNat y1)), .val (.int (Int32.ofNat lo)), .val (.int (Int32.ofNat hi)), .val (.ref b139), .unset, .unset, .unset, .unset, .unset, .unset, .unset, .unset, .unset, .unset]) rfl ?_
    show Steps p.tables e below (T145.setTop (mkF m 88 #[.val (.long p0), .second, .val (.long p1), .second, .val (.long p2), .second, .val (.int p3), .val (.int (Int32.ofNat fs0)), .val (.int (Int32.ofNat (fs0 + wd0))), .val (.int (Int32.ofNat fs1)), .val (.int (Int32.ofNat (fs1 + wd1))), .val (.int (Int32.ofNat fs2)), .val (.int (Int32.ofNat (fs2 + wd2))), .val (.int (Int32.ofNat x1)), .val (.int (Int32.ofNat y1)), .val (.int (Int32.ofNat lo)), .val (.int (Int32.ofNat hi)), .val (.ref b139), .unset, .unset, .unset, .unset, .unset, .unset, .unset, .unset, .unset, .unset] [])) _
    refine XS.aload X145.here hx rfl (own_hb hby at_88) rfl rfl ?_
    show Steps p.tables e below (T145.setTop (mkF m 90 #[.val (.long p0), .second, .val (.long p1), .second, .val (.long p2), .second, .val (.int p3), .val (.int (Int32.ofNat fs0)), .val (.int (Int32.ofNat (fs0 + wd0))), .val (.int (Int32.ofNat fs1)), .val (.int (Int32.ofNat (fs1 + wd1))), .val (.int (Int32.ofNat fs2)), .val (.int (Int32.ofNat (fs2 + wd2))), .val (.int (Int32.ofNat x1)), .val (.int (Int32.ofNat y1)), .val (.int (Int32.ofNat lo)), .val (.int (Int32.ofNat hi)), .val (.ref b139), .unset, .unset, .unset, .unset, .unset, .unset, .unset, .unset, .unset, .unset] [(.ref b139)])) _
    refine XS.iload X145.here hx rfl (own_hb hby at_90) rfl ?_
    show Steps p.tables e below (T145.setTop (mkF m 92 #[.val (.long p0), .second, .val (.long p1), .second, .val (.long p2), .second, .val (.int p3), .val (.int (Int32.ofNat fs0)), .val (.int (Int32.ofNat (fs0 + wd0))), .val (.int (Int32.ofNat fs1)), .val (.int (Int32.ofNat (fs1 + wd1))), .val (.int (Int32.ofNat fs2)), .val (.int (Int32.ofNat (fs2 + wd2))), .val (.int (Int32.ofNat x1)), .val (.int (Int32.ofNat y1)), .val (.int (Int32.ofNat lo)), .val (.int (Int32.ofNat hi)), .val (.ref b139), .unset, .unset, .unset, .unset, .unset, .unset, .unset, .unset, .unset, .unset] [(.int p3), (.ref b139)])) _
    refine XS.iload X145.here hx rfl (own_hb hby at_92) rfl ?_
    show Steps p.tables e below (T145.setTop (mkF m 94 #[.val (.long p0), .second, .val (.long p1), .second, .val (.long p2), .second, .val (.int p3), .val (.int (Int32.ofNat fs0)), .val (.int (Int32.ofNat (fs0 + wd0))), .val (.int (Int32.ofNat fs1)), .val (.int (Int32.ofNat (fs1 + wd1))), .val (.int (Int32.ofNat fs2)), .val (.int (Int32.ofNat (fs2 + wd2))), .val (.int (Int32.ofNat x1)), .val (.int (Int32.ofNat y1)), .val (.int (Int32.ofNat lo)), .val (.int (Int32.ofNat hi)), .val (.ref b139), .unset, .unset, .unset, .unset, .unset, .unset, .unset, .unset, .unset, .unset] [(.int (Int32.ofNat fs0)), (.int p3), (.ref b139)])) _
    refine XS.iload X145.here hx rfl (own_hb hby at_94) rfl ?_
    exact kt
  obtain ⟨cq154, kq154, q154a, q154b, q154c⟩ := isOf hZ rfl p145_6
  obtain ⟨_, _, ⟨T154, L154, k154, n154⟩, -, X154, ⟨Lc154, hQ154, l154, y154, z154⟩, st154⟩ := X145.virtualBack hx (y := (⟨"com/example/sagasu/sagasu/Grid$RowRuns", "add", "(III)V"⟩ : MethodName)) (z := (⟨"com/example/sagasu/sagasu/Grid$RowRuns", "add", "(III)V"⟩ : MethodName)) hown (mvT hZ (hw _ (List.mem_of_getElem? (i := 31) rfl))) (mvT hZ (hw _ (List.mem_of_getElem? (i := 32) rfl))) (notFace_of_selects (args := #[]) (mvT hZ (hw _ (List.mem_of_getElem? (i := 34) rfl)))) (mvT hZ (hw _ (List.mem_of_getElem? (i := 34) rfl))) (mvT hZ (hw _ (List.mem_of_getElem? (i := 33) rfl))) (by decide) (backOf (W := 0) (rm7 l Z a0 hw [] b139 p3 (Int32.ofNat fs0) (Int32.ofNat (fs0 + wd0)) r1145 r2145 r3145 0 (fun _ => (0 : Int32)) (fun _ => (0 : Int32)) (fun _ => (0 : Int32)) T145.heap n0 z153 p145_6 p145_7 p145_8 p145_9 p145_10 p145_11 p145_12 p145_13 gx139 gx146 gx148 gx150 p145_3 p145_4 p145_5 ne147 ne149 ne151 (by decide)) hZ (hw _ (List.mem_of_getElem? (i := 35) rfl)) (hw _ (List.mem_of_getElem? (i := 17) rfl)) (by decide) (by decide)) q154a q154c (g := (mkF m 96 #[.val (.long p0), .second, .val (.long p1), .second, .val (.long p2), .second, .val (.int p3), .val (.int (Int32.ofNat fs0)), .val (.int (Int32.ofNat (fs0 + wd0))), .val (.int (Int32.ofNat fs1)), .val (.int (Int32.ofNat (fs1 + wd1))), .val (.int (Int32.ofNat fs2)), .val (.int (Int32.ofNat (fs2 + wd2))), .val (.int (Int32.ofNat x1)), .val (.int (Int32.ofNat y1)), .val (.int (Int32.ofNat lo)), .val (.int (Int32.ofNat hi)), .val (.ref b139), .unset, .unset, .unset, .unset, .unset, .unset, .unset, .unset, .unset, .unset] [(.int (Int32.ofNat (fs0 + wd0))), (.int (Int32.ofNat fs0)), (.int p3), (.ref b139)])) rfl (by rw [hml]; rfl) (Steps.refl _) (argsL := [(.int p3), (.int (Int32.ofNat fs0)), (.int (Int32.ofNat (fs0 + wd0)))]) (rest := []) (lenOf pd_3 rfl) rfl (by show 2 * 0 + _ ≤ _; exact Nat.le_of_eq rfl) (own_hb hby at_96) (fun _ _ => ⟨rfl, rfl, (by decide : 4 + 0 ≤ _), (by decide : 196 + 0 ≤ _)⟩)
  dsimp only [Pt.U, Pt.locs, Pt.cells, Pt.slots] at X154 l154 y154 z154 st154 hQ154
  subst l154 y154 z154
  obtain ⟨rfl, N154q, K154, p154_0, p154_1, p154_2, p154_3, p154_4, p154_5, p154_6, p154_7⟩ := hQ154
  have N154 := Fr.app N145 N154q
  refine own_Go.of (S' := (T154.setTop (mkF m 99 #[.val (.long p0), .second, .val (.long p1), .second, .val (.long p2), .second, .val (.int p3), .val (.int (Int32.ofNat fs0)), .val (.int (Int32.ofNat (fs0 + wd0))), .val (.int (Int32.ofNat fs1)), .val (.int (Int32.ofNat (fs1 + wd1))), .val (.int (Int32.ofNat fs2)), .val (.int (Int32.ofNat (fs2 + wd2))), .val (.int (Int32.ofNat x1)), .val (.int (Int32.ofNat y1)), .val (.int (Int32.ofNat lo)), .val (.int (Int32.ofNat hi)), .val (.ref b139), .unset, .unset, .unset, .unset, .unset, .unset, .unset, .unset, .unset, .unset] []))) (fun t kt => st154.trans kt) ?_
  have f155 : Exa Z T154.heap b139 "com/example/sagasu/sagasu/Grid$RowRuns" := p145_6.keep K154
  have z156 : n0 ≤ T154.heap.size := Nat.le_trans z153 K154.1
  refine own_Go.of (S' := (T154.setTop (mkF m 109 #[.val (.long p0), .second, .val (.long p1), .second, .val (.long p2), .second, .val (.int p3), .val (.int (Int32.ofNat fs0)), .val (.int (Int32.ofNat (fs0 + wd0))), .val (.int (Int32.ofNat fs1)), .val (.int (Int32.ofNat (fs1 + wd1))), .val (.int (Int32.ofNat fs2)), .val (.int (Int32.ofNat (fs2 + wd2))), .val (.int (Int32.ofNat x1)), .val (.int (Int32.ofNat y1)), .val (.int (Int32.ofNat lo)), .val (.int (Int32.ofNat hi)), .val (.ref b139), .unset, .unset, .unset, .unset, .unset, .unset, .unset, .unset, .unset, .unset] [(.int (Int32.ofNat (fs1 + wd1))), (.int (Int32.ofNat fs1)), (.int ((p3.toUInt32 >>> ((4 : Int32) &&& 31).toUInt32).toInt32)), (.ref b139)]))) (fun t kt => ?_) ?_
  · show Steps p.tables e below (T154.setTop (mkF m 99 #[.val (.long p0), .second, .val (.long p1), .second, .val (.long p2), .second, .val (.int p3), .val (.int (Int32.ofNat fs0)), .val (.int (Int32.ofNat (fs0 + wd0))), .val (.int (Int32.ofNat fs1)), .val (.int (Int32.ofNat (fs1 + wd1))), .val (.int (Int32.ofNat fs2)), .val (.int (Int32.ofNat (fs2 + wd2))), .val (.int (Int32.ofNat x1)), .val (.int (Int32.ofNat y1)), .val (.int (Int32.ofNat lo)), .val (.int (Int32.ofNat hi)), .val (.ref b139), .unset, .unset, .unset, .unset, .unset, .unset, .unset, .unset, .unset, .unset] [])) _
    refine XS.aload X154.here hx rfl (own_hb hby at_99) rfl rfl ?_
    show Steps p.tables e below (T154.setTop (mkF m 101 #[.val (.long p0), .second, .val (.long p1), .second, .val (.long p2), .second, .val (.int p3), .val (.int (Int32.ofNat fs0)), .val (.int (Int32.ofNat (fs0 + wd0))), .val (.int (Int32.ofNat fs1)), .val (.int (Int32.ofNat (fs1 + wd1))), .val (.int (Int32.ofNat fs2)), .val (.int (Int32.ofNat (fs2 + wd2))), .val (.int (Int32.ofNat x1)), .val (.int (Int32.ofNat y1)), .val (.int (Int32.ofNat lo)), .val (.int (Int32.ofNat hi)), .val (.ref b139), .unset, .unset, .unset, .unset, .unset, .unset, .unset, .unset, .unset, .unset] [(.ref b139)])) _
    refine XS.iload X154.here hx rfl (own_hb hby at_101) rfl ?_
    show Steps p.tables e below (T154.setTop (mkF m 103 #[.val (.long p0), .second, .val (.long p1), .second, .val (.long p2), .second, .val (.int p3), .val (.int (Int32.ofNat fs0)), .val (.int (Int32.ofNat (fs0 + wd0))), .val (.int (Int32.ofNat fs1)), .val (.int (Int32.ofNat (fs1 + wd1))), .val (.int (Int32.ofNat fs2)), .val (.int (Int32.ofNat (fs2 + wd2))), .val (.int (Int32.ofNat x1)), .val (.int (Int32.ofNat y1)), .val (.int (Int32.ofNat lo)), .val (.int (Int32.ofNat hi)), .val (.ref b139), .unset, .unset, .unset, .unset, .unset, .unset, .unset, .unset, .unset, .unset] [(.int p3), (.ref b139)])) _
    refine XS.iconst X154.here hx rfl (own_hb hby at_103) ?_
    show Steps p.tables e below (T154.setTop (mkF m 104 #[.val (.long p0), .second, .val (.long p1), .second, .val (.long p2), .second, .val (.int p3), .val (.int (Int32.ofNat fs0)), .val (.int (Int32.ofNat (fs0 + wd0))), .val (.int (Int32.ofNat fs1)), .val (.int (Int32.ofNat (fs1 + wd1))), .val (.int (Int32.ofNat fs2)), .val (.int (Int32.ofNat (fs2 + wd2))), .val (.int (Int32.ofNat x1)), .val (.int (Int32.ofNat y1)), .val (.int (Int32.ofNat lo)), .val (.int (Int32.ofNat hi)), .val (.ref b139), .unset, .unset, .unset, .unset, .unset, .unset, .unset, .unset, .unset, .unset] [(.int (4 : Int32)), (.int p3), (.ref b139)])) _
    refine XS.iushr X154.here hx rfl (own_hb hby at_104) rfl ?_
    show Steps p.tables e below (T154.setTop (mkF m 105 #[.val (.long p0), .second, .val (.long p1), .second, .val (.long p2), .second, .val (.int p3), .val (.int (Int32.ofNat fs0)), .val (.int (Int32.ofNat (fs0 + wd0))), .val (.int (Int32.ofNat fs1)), .val (.int (Int32.ofNat (fs1 + wd1))), .val (.int (Int32.ofNat fs2)), .val (.int (Int32.ofNat (fs2 + wd2))), .val (.int (Int32.ofNat x1)), .val (.int (Int32.ofNat y1)), .val (.int (Int32.ofNat lo)), .val (.int (Int32.ofNat hi)), .val (.ref b139), .unset, .unset, .unset, .unset, .unset, .unset, .unset, .unset, .unset, .unset] [(.int ((p3.toUInt32 >>> ((4 : Int32) &&& 31).toUInt32).toInt32)), (.ref b139)])) _
    refine XS.iload X154.here hx rfl (own_hb hby at_105) rfl ?_
    show Steps p.tables e below (T154.setTop (mkF m 107 #[.val (.long p0), .second, .val (.long p1), .second, .val (.long p2), .second, .val (.int p3), .val (.int (Int32.ofNat fs0)), .val (.int (Int32.ofNat (fs0 + wd0))), .val (.int (Int32.ofNat fs1)), .val (.int (Int32.ofNat (fs1 + wd1))), .val (.int (Int32.ofNat fs2)), .val (.int (Int32.ofNat (fs2 + wd2))), .val (.int (Int32.ofNat x1)), .val (.int (Int32.ofNat y1)), .val (.int (Int32.ofNat lo)), .val (.int (Int32.ofNat hi)), .val (.ref b139), .unset, .unset, .unset, .unset, .unset, .unset, .unset, .unset, .unset, .unset] [(.int (Int32.ofNat fs1)), (.int ((p3.toUInt32 >>> ((4 : Int32) &&& 31).toUInt32).toInt32)), (.ref b139)])) _
    refine XS.iload X154.here hx rfl (own_hb hby at_107) rfl ?_
    exact kt
  obtain ⟨cq157, kq157, q157a, q157b, q157c⟩ := isOf hZ rfl p154_0
  obtain ⟨_, _, ⟨T157, L157, k157, n157⟩, -, X157, ⟨Lc157, hQ157, l157, y157, z157⟩, st157⟩ := X154.virtualBack hx (y := (⟨"com/example/sagasu/sagasu/Grid$RowRuns", "add", "(III)V"⟩ : MethodName)) (z := (⟨"com/example/sagasu/sagasu/Grid$RowRuns", "add", "(III)V"⟩ : MethodName)) hown (mvT hZ (hw _ (List.mem_of_getElem? (i := 31) rfl))) (mvT hZ (hw _ (List.mem_of_getElem? (i := 32) rfl))) (notFace_of_selects (args := #[]) (mvT hZ (hw _ (List.mem_of_getElem? (i := 34) rfl)))) (mvT hZ (hw _ (List.mem_of_getElem? (i := 34) rfl))) (mvT hZ (hw _ (List.mem_of_getElem? (i := 33) rfl))) (by decide) (backOf (W := 0) (rm7 l Z a0 hw [] b139 ((p3.toUInt32 >>> ((4 : Int32) &&& 31).toUInt32).toInt32) (Int32.ofNat fs1) (Int32.ofNat (fs1 + wd1)) r1145 r2145 r3145 (0 + 1) (own_set (fun _ => (0 : Int32)) 0 p3) (own_set (fun _ => (0 : Int32)) 0 (Int32.ofNat fs0)) (own_set (fun _ => (0 : Int32)) 0 (Int32.ofNat (fs0 + wd0))) T154.heap n0 z156 p154_0 p154_1 p154_2 p154_3 p154_4 p154_5 p154_6 p154_7 gx139 gx146 gx148 gx150 p145_3 p145_4 p145_5 ne147 ne149 ne151 (by decide)) hZ (hw _ (List.mem_of_getElem? (i := 35) rfl)) (hw _ (List.mem_of_getElem? (i := 17) rfl)) (by decide) (by decide)) q157a q157c (g := (mkF m 109 #[.val (.long p0), .second, .val (.long p1), .second, .val (.long p2), .second, .val (.int p3), .val (.int (Int32.ofNat fs0)), .val (.int (Int32.ofNat (fs0 + wd0))), .val (.int (Int32.ofNat fs1)), .val (.int (Int32.ofNat (fs1 + wd1))), .val (.int (Int32.ofNat fs2)), .val (.int (Int32.ofNat (fs2 + wd2))), .val (.int (Int32.ofNat x1)), .val (.int (Int32.ofNat y1)), .val (.int (Int32.ofNat lo)), .val (.int (Int32.ofNat hi)), .val (.ref b139), .unset, .unset, .unset, .unset, .unset, .unset, .unset, .unset, .unset, .unset] [(.int (Int32.ofNat (fs1 + wd1))), (.int (Int32.ofNat fs1)), (.int ((p3.toUInt32 >>> ((4 : Int32) &&& 31).toUInt32).toInt32)), (.ref b139)])) rfl (by rw [hml]; rfl) (Steps.refl _) (argsL := [(.int ((p3.toUInt32 >>> ((4 : Int32) &&& 31).toUInt32).toInt32)), (.int (Int32.ofNat fs1)), (.int (Int32.ofNat (fs1 + wd1)))]) (rest := []) (lenOf pd_3 rfl) rfl (by show 2 * 0 + _ ≤ _; exact Nat.le_of_eq rfl) (own_hb hby at_109) (fun _ _ => ⟨rfl, rfl, (by decide : 4 + 0 ≤ _), (by decide : 196 + 0 ≤ _)⟩)
  dsimp only [Pt.U, Pt.locs, Pt.cells, Pt.slots] at X157 l157 y157 z157 st157 hQ157
  subst l157 y157 z157
  obtain ⟨rfl, N157q, K157, p157_0, p157_1, p157_2, p157_3, p157_4, p157_5, p157_6, p157_7⟩ := hQ157
  have N157 := Fr.app N154 N157q
  refine own_Go.of (S' := (T157.setTop (mkF m 112 #[.val (.long p0), .second, .val (.long p1), .second, .val (.long p2), .second, .val (.int p3), .val (.int (Int32.ofNat fs0)), .val (.int (Int32.ofNat (fs0 + wd0))), .val (.int (Int32.ofNat fs1)), .val (.int (Int32.ofNat (fs1 + wd1))), .val (.int (Int32.ofNat fs2)), .val (.int (Int32.ofNat (fs2 + wd2))), .val (.int (Int32.ofNat x1)), .val (.int (Int32.ofNat y1)), .val (.int (Int32.ofNat lo)), .val (.int (Int32.ofNat hi)), .val (.ref b139), .unset, .unset, .unset, .unset, .unset, .unset, .unset, .unset, .unset, .unset] []))) (fun t kt => st157.trans kt) ?_
  have f158 : Exa Z T157.heap b139 "com/example/sagasu/sagasu/Grid$RowRuns" := p154_0.keep K157
  have z159 : n0 ≤ T157.heap.size := Nat.le_trans z156 K157.1
  refine own_Go.of (S' := (T157.setTop (mkF m 123 #[.val (.long p0), .second, .val (.long p1), .second, .val (.long p2), .second, .val (.int p3), .val (.int (Int32.ofNat fs0)), .val (.int (Int32.ofNat (fs0 + wd0))), .val (.int (Int32.ofNat fs1)), .val (.int (Int32.ofNat (fs1 + wd1))), .val (.int (Int32.ofNat fs2)), .val (.int (Int32.ofNat (fs2 + wd2))), .val (.int (Int32.ofNat x1)), .val (.int (Int32.ofNat y1)), .val (.int (Int32.ofNat lo)), .val (.int (Int32.ofNat hi)), .val (.ref b139), .unset, .unset, .unset, .unset, .unset, .unset, .unset, .unset, .unset, .unset] [(.int (Int32.ofNat (fs2 + wd2))), (.int (Int32.ofNat fs2)), (.int ((p3.toUInt32 >>> ((8 : Int32) &&& 31).toUInt32).toInt32)), (.ref b139)]))) (fun t kt => ?_) ?_
  · show Steps p.tables e below (T157.setTop (mkF m 112 #[.val (.long p0), .second, .val (.long p1), .second, .val (.long p2), .second, .val (.int p3), .val (.int (Int32.ofNat fs0)), .val (.int (Int32.ofNat (fs0 + wd0))), .val (.int (Int32.ofNat fs1)), .val (.int (Int32.ofNat (fs1 + wd1))), .val (.int (Int32.ofNat fs2)), .val (.int (Int32.ofNat (fs2 + wd2))), .val (.int (Int32.ofNat x1)), .val (.int (Int32.ofNat y1)), .val (.int (Int32.ofNat lo)), .val (.int (Int32.ofNat hi)), .val (.ref b139), .unset, .unset, .unset, .unset, .unset, .unset, .unset, .unset, .unset, .unset] [])) _
    refine XS.aload X157.here hx rfl (own_hb hby at_112) rfl rfl ?_
    show Steps p.tables e below (T157.setTop (mkF m 114 #[.val (.long p0), .second, .val (.long p1), .second, .val (.long p2), .second, .val (.int p3), .val (.int (Int32.ofNat fs0)), .val (.int (Int32.ofNat (fs0 + wd0))), .val (.int (Int32.ofNat fs1)), .val (.int (Int32.ofNat (fs1 + wd1))), .val (.int (Int32.ofNat fs2)), .val (.int (Int32.ofNat (fs2 + wd2))), .val (.int (Int32.ofNat x1)), .val (.int (Int32.ofNat y1)), .val (.int (Int32.ofNat lo)), .val (.int (Int32.ofNat hi)), .val (.ref b139), .unset, .unset, .unset, .unset, .unset, .unset, .unset, .unset, .unset, .unset] [(.ref b139)])) _
    refine XS.iload X157.here hx rfl (own_hb hby at_114) rfl ?_
    show Steps p.tables e below (T157.setTop (mkF m 116 #[.val (.long p0), .second, .val (.long p1), .second, .val (.long p2), .second, .val (.int p3), .val (.int (Int32.ofNat fs0)), .val (.int (Int32.ofNat (fs0 + wd0))), .val (.int (Int32.ofNat fs1)), .val (.int (Int32.ofNat (fs1 + wd1))), .val (.int (Int32.ofNat fs2)), .val (.int (Int32.ofNat (fs2 + wd2))), .val (.int (Int32.ofNat x1)), .val (.int (Int32.ofNat y1)), .val (.int (Int32.ofNat lo)), .val (.int (Int32.ofNat hi)), .val (.ref b139), .unset, .unset, .unset, .unset, .unset, .unset, .unset, .unset, .unset, .unset] [(.int p3), (.ref b139)])) _
    refine XS.bipush X157.here hx rfl (own_hb hby at_116) ?_
    show Steps p.tables e below (T157.setTop (mkF m 118 #[.val (.long p0), .second, .val (.long p1), .second, .val (.long p2), .second, .val (.int p3), .val (.int (Int32.ofNat fs0)), .val (.int (Int32.ofNat (fs0 + wd0))), .val (.int (Int32.ofNat fs1)), .val (.int (Int32.ofNat (fs1 + wd1))), .val (.int (Int32.ofNat fs2)), .val (.int (Int32.ofNat (fs2 + wd2))), .val (.int (Int32.ofNat x1)), .val (.int (Int32.ofNat y1)), .val (.int (Int32.ofNat lo)), .val (.int (Int32.ofNat hi)), .val (.ref b139), .unset, .unset, .unset, .unset, .unset, .unset, .unset, .unset, .unset, .unset] [(.int (8 : Int32)), (.int p3), (.ref b139)])) _
    refine XS.iushr X157.here hx rfl (own_hb hby at_118) rfl ?_
    show Steps p.tables e below (T157.setTop (mkF m 119 #[.val (.long p0), .second, .val (.long p1), .second, .val (.long p2), .second, .val (.int p3), .val (.int (Int32.ofNat fs0)), .val (.int (Int32.ofNat (fs0 + wd0))), .val (.int (Int32.ofNat fs1)), .val (.int (Int32.ofNat (fs1 + wd1))), .val (.int (Int32.ofNat fs2)), .val (.int (Int32.ofNat (fs2 + wd2))), .val (.int (Int32.ofNat x1)), .val (.int (Int32.ofNat y1)), .val (.int (Int32.ofNat lo)), .val (.int (Int32.ofNat hi)), .val (.ref b139), .unset, .unset, .unset, .unset, .unset, .unset, .unset, .unset, .unset, .unset] [(.int ((p3.toUInt32 >>> ((8 : Int32) &&& 31).toUInt32).toInt32)), (.ref b139)])) _
    refine XS.iload X157.here hx rfl (own_hb hby at_119) rfl ?_
    show Steps p.tables e below (T157.setTop (mkF m 121 #[.val (.long p0), .second, .val (.long p1), .second, .val (.long p2), .second, .val (.int p3), .val (.int (Int32.ofNat fs0)), .val (.int (Int32.ofNat (fs0 + wd0))), .val (.int (Int32.ofNat fs1)), .val (.int (Int32.ofNat (fs1 + wd1))), .val (.int (Int32.ofNat fs2)), .val (.int (Int32.ofNat (fs2 + wd2))), .val (.int (Int32.ofNat x1)), .val (.int (Int32.ofNat y1)), .val (.int (Int32.ofNat lo)), .val (.int (Int32.ofNat hi)), .val (.ref b139), .unset, .unset, .unset, .unset, .unset, .unset, .unset, .unset, .unset, .unset] [(.int (Int32.ofNat fs2)), (.int ((p3.toUInt32 >>> ((8 : Int32) &&& 31).toUInt32).toInt32)), (.ref b139)])) _
    refine XS.iload X157.here hx rfl (own_hb hby at_121) rfl ?_
    exact kt
  obtain ⟨cq160, kq160, q160a, q160b, q160c⟩ := isOf hZ rfl p157_0
  obtain ⟨_, _, ⟨T160, L160, k160, n160⟩, -, X160, ⟨Lc160, hQ160, l160, y160, z160⟩, st160⟩ := X157.virtualBack hx (y := (⟨"com/example/sagasu/sagasu/Grid$RowRuns", "add", "(III)V"⟩ : MethodName)) (z := (⟨"com/example/sagasu/sagasu/Grid$RowRuns", "add", "(III)V"⟩ : MethodName)) hown (mvT hZ (hw _ (List.mem_of_getElem? (i := 31) rfl))) (mvT hZ (hw _ (List.mem_of_getElem? (i := 32) rfl))) (notFace_of_selects (args := #[]) (mvT hZ (hw _ (List.mem_of_getElem? (i := 34) rfl)))) (mvT hZ (hw _ (List.mem_of_getElem? (i := 34) rfl))) (mvT hZ (hw _ (List.mem_of_getElem? (i := 33) rfl))) (by decide) (backOf (W := 0) (rm7 l Z a0 hw [] b139 ((p3.toUInt32 >>> ((8 : Int32) &&& 31).toUInt32).toInt32) (Int32.ofNat fs2) (Int32.ofNat (fs2 + wd2)) r1145 r2145 r3145 ((0 + 1) + 1) (own_set (own_set (fun _ => (0 : Int32)) 0 p3) (0 + 1) ((p3.toUInt32 >>> ((4 : Int32) &&& 31).toUInt32).toInt32)) (own_set (own_set (fun _ => (0 : Int32)) 0 (Int32.ofNat fs0)) (0 + 1) (Int32.ofNat fs1)) (own_set (own_set (fun _ => (0 : Int32)) 0 (Int32.ofNat (fs0 + wd0))) (0 + 1) (Int32.ofNat (fs1 + wd1))) T157.heap n0 z159 p157_0 p157_1 p157_2 p157_3 p157_4 p157_5 p157_6 p157_7 gx139 gx146 gx148 gx150 p145_3 p145_4 p145_5 ne147 ne149 ne151 (by decide)) hZ (hw _ (List.mem_of_getElem? (i := 35) rfl)) (hw _ (List.mem_of_getElem? (i := 17) rfl)) (by decide) (by decide)) q160a q160c (g := (mkF m 123 #[.val (.long p0), .second, .val (.long p1), .second, .val (.long p2), .second, .val (.int p3), .val (.int (Int32.ofNat fs0)), .val (.int (Int32.ofNat (fs0 + wd0))), .val (.int (Int32.ofNat fs1)), .val (.int (Int32.ofNat (fs1 + wd1))), .val (.int (Int32.ofNat fs2)), .val (.int (Int32.ofNat (fs2 + wd2))), .val (.int (Int32.ofNat x1)), .val (.int (Int32.ofNat y1)), .val (.int (Int32.ofNat lo)), .val (.int (Int32.ofNat hi)), .val (.ref b139), .unset, .unset, .unset, .unset, .unset, .unset, .unset, .unset, .unset, .unset] [(.int (Int32.ofNat (fs2 + wd2))), (.int (Int32.ofNat fs2)), (.int ((p3.toUInt32 >>> ((8 : Int32) &&& 31).toUInt32).toInt32)), (.ref b139)])) rfl (by rw [hml]; rfl) (Steps.refl _) (argsL := [(.int ((p3.toUInt32 >>> ((8 : Int32) &&& 31).toUInt32).toInt32)), (.int (Int32.ofNat fs2)), (.int (Int32.ofNat (fs2 + wd2)))]) (rest := []) (lenOf pd_3 rfl) rfl (by show 2 * 0 + _ ≤ _; exact Nat.le_of_eq rfl) (own_hb hby at_123) (fun _ _ => ⟨rfl, rfl, (by decide : 4 + 0 ≤ _), (by decide : 196 + 0 ≤ _)⟩)
  dsimp only [Pt.U, Pt.locs, Pt.cells, Pt.slots] at X160 l160 y160 z160 st160 hQ160
  subst l160 y160 z160
  obtain ⟨rfl, N160q, K160, p160_0, p160_1, p160_2, p160_3, p160_4, p160_5, p160_6, p160_7⟩ := hQ160
  have N160 := Fr.app N157 N160q
  refine own_Go.of (S' := (T160.setTop (mkF m 126 #[.val (.long p0), .second, .val (.long p1), .second, .val (.long p2), .second, .val (.int p3), .val (.int (Int32.ofNat fs0)), .val (.int (Int32.ofNat (fs0 + wd0))), .val (.int (Int32.ofNat fs1)), .val (.int (Int32.ofNat (fs1 + wd1))), .val (.int (Int32.ofNat fs2)), .val (.int (Int32.ofNat (fs2 + wd2))), .val (.int (Int32.ofNat x1)), .val (.int (Int32.ofNat y1)), .val (.int (Int32.ofNat lo)), .val (.int (Int32.ofNat hi)), .val (.ref b139), .unset, .unset, .unset, .unset, .unset, .unset, .unset, .unset, .unset, .unset] []))) (fun t kt => st160.trans kt) ?_
  have f161 : Exa Z T160.heap b139 "com/example/sagasu/sagasu/Grid$RowRuns" := p157_0.keep K160
  have z162 : n0 ≤ T160.heap.size := Nat.le_trans z159 K160.1
  refine own_Go.of (S' := (T160.setTop (mkF m 132 #[.val (.long p0), .second, .val (.long p1), .second, .val (.long p2), .second, .val (.int p3), .val (.int (Int32.ofNat fs0)), .val (.int (Int32.ofNat (fs0 + wd0))), .val (.int (Int32.ofNat fs1)), .val (.int (Int32.ofNat (fs1 + wd1))), .val (.int (Int32.ofNat fs2)), .val (.int (Int32.ofNat (fs2 + wd2))), .val (.int (Int32.ofNat x1)), .val (.int (Int32.ofNat y1)), .val (.int (Int32.ofNat lo)), .val (.int (Int32.ofNat hi)), .val (.ref b139), .unset, .unset, .unset, .unset, .unset, .unset, .unset, .unset, .unset, .unset] [(.int (Int32.ofNat hi)), (.int (Int32.ofNat lo)), (.ref b139)]))) (fun t kt => ?_) ?_
  · show Steps p.tables e below (T160.setTop (mkF m 126 #[.val (.long p0), .second, .val (.long p1), .second, .val (.long p2), .second, .val (.int p3), .val (.int (Int32.ofNat fs0)), .val (.int (Int32.ofNat (fs0 + wd0))), .val (.int (Int32.ofNat fs1)), .val (.int (Int32.ofNat (fs1 + wd1))), .val (.int (Int32.ofNat fs2)), .val (.int (Int32.ofNat (fs2 + wd2))), .val (.int (Int32.ofNat x1)), .val (.int (Int32.ofNat y1)), .val (.int (Int32.ofNat lo)), .val (.int (Int32.ofNat hi)), .val (.ref b139), .unset, .unset, .unset, .unset, .unset, .unset, .unset, .unset, .unset, .unset] [])) _
    refine XS.aload X160.here hx rfl (own_hb hby at_126) rfl rfl ?_
    show Steps p.tables e below (T160.setTop (mkF m 128 #[.val (.long p0), .second, .val (.long p1), .second, .val (.long p2), .second, .val (.int p3), .val (.int (Int32.ofNat fs0)), .val (.int (Int32.ofNat (fs0 + wd0))), .val (.int (Int32.ofNat fs1)), .val (.int (Int32.ofNat (fs1 + wd1))), .val (.int (Int32.ofNat fs2)), .val (.int (Int32.ofNat (fs2 + wd2))), .val (.int (Int32.ofNat x1)), .val (.int (Int32.ofNat y1)), .val (.int (Int32.ofNat lo)), .val (.int (Int32.ofNat hi)), .val (.ref b139), .unset, .unset, .unset, .unset, .unset, .unset, .unset, .unset, .unset, .unset] [(.ref b139)])) _
    refine XS.iload X160.here hx rfl (own_hb hby at_128) rfl ?_
    show Steps p.tables e below (T160.setTop (mkF m 130 #[.val (.long p0), .second, .val (.long p1), .second, .val (.long p2), .second, .val (.int p3), .val (.int (Int32.ofNat fs0)), .val (.int (Int32.ofNat (fs0 + wd0))), .val (.int (Int32.ofNat fs1)), .val (.int (Int32.ofNat (fs1 + wd1))), .val (.int (Int32.ofNat fs2)), .val (.int (Int32.ofNat (fs2 + wd2))), .val (.int (Int32.ofNat x1)), .val (.int (Int32.ofNat y1)), .val (.int (Int32.ofNat lo)), .val (.int (Int32.ofNat hi)), .val (.ref b139), .unset, .unset, .unset, .unset, .unset, .unset, .unset, .unset, .unset, .unset] [(.int (Int32.ofNat lo)), (.ref b139)])) _
    refine XS.iload X160.here hx rfl (own_hb hby at_130) rfl ?_
    exact kt
  obtain ⟨cq163, kq163, q163a, q163b, q163c⟩ := isOf hZ rfl p160_0
  obtain ⟨_, _, ⟨T163, L163, k163, n163⟩, -, X163, ⟨Lc163, hQ163, l163, y163, z163⟩, st163⟩ := X160.virtualBack hx (y := (⟨"com/example/sagasu/sagasu/Grid$RowRuns", "cells", "(II)J"⟩ : MethodName)) (z := (⟨"com/example/sagasu/sagasu/Grid$RowRuns", "cells", "(II)J"⟩ : MethodName)) hown (mvT hZ (hw _ (List.mem_of_getElem? (i := 38) rfl))) (mvT hZ (hw _ (List.mem_of_getElem? (i := 39) rfl))) (notFace_of_selects (args := #[]) (mvT hZ (hw _ (List.mem_of_getElem? (i := 41) rfl)))) (mvT hZ (hw _ (List.mem_of_getElem? (i := 41) rfl))) (mvT hZ (hw _ (List.mem_of_getElem? (i := 40) rfl))) (by decide) (backOf (W := 0) (rm8 l Z a0 hw [] b139 lo hi r2145 r3145 (own_set (own_set (own_set (fun _ => (0 : Int32)) 0 (Int32.ofNat fs0)) (0 + 1) (Int32.ofNat fs1)) ((0 + 1) + 1) (Int32.ofNat fs2)) (own_set (own_set (own_set (fun _ => (0 : Int32)) 0 (Int32.ofNat (fs0 + wd0))) (0 + 1) (Int32.ofNat (fs1 + wd1))) ((0 + 1) + 1) (Int32.ofNat (fs2 + wd2))) T160.heap n0 z162 p160_2 p160_3 p160_6 p160_7 hlh hh3) hZ (hw _ (List.mem_of_getElem? (i := 42) rfl)) (hw _ (List.mem_of_getElem? (i := 17) rfl)) (by decide) (by decide)) q163a q163c (g := (mkF m 132 #[.val (.long p0), .second, .val (.long p1), .second, .val (.long p2), .second, .val (.int p3), .val (.int (Int32.ofNat fs0)), .val (.int (Int32.ofNat (fs0 + wd0))), .val (.int (Int32.ofNat fs1)), .val (.int (Int32.ofNat (fs1 + wd1))), .val (.int (Int32.ofNat fs2)), .val (.int (Int32.ofNat (fs2 + wd2))), .val (.int (Int32.ofNat x1)), .val (.int (Int32.ofNat y1)), .val (.int (Int32.ofNat lo)), .val (.int (Int32.ofNat hi)), .val (.ref b139), .unset, .unset, .unset, .unset, .unset, .unset, .unset, .unset, .unset, .unset] [(.int (Int32.ofNat hi)), (.int (Int32.ofNat lo)), (.ref b139)])) rfl (by rw [hml]; rfl) (Steps.refl _) (argsL := [(.int (Int32.ofNat lo)), (.int (Int32.ofNat hi))]) (rest := []) (lenOf pd_4 rfl) rfl (by show 2 * 0 + _ ≤ _; exact Nat.le_of_eq rfl) (own_hb hby at_132) (fun _ _ => ⟨rfl, rfl, (by decide : 4 + 0 ≤ _), (by decide : 196 + 0 ≤ _)⟩)
  dsimp only [Pt.U, Pt.locs, Pt.cells, Pt.slots] at X163 l163 y163 z163 st163 hQ163
  subst l163 y163 z163
  obtain ⟨rfl, N163q, hh163⟩ := hQ163
  have N163 := Fr.app N160 N163q
  refine own_Go.of (S' := (T163.setTop (mkF m 135 #[.val (.long p0), .second, .val (.long p1), .second, .val (.long p2), .second, .val (.int p3), .val (.int (Int32.ofNat fs0)), .val (.int (Int32.ofNat (fs0 + wd0))), .val (.int (Int32.ofNat fs1)), .val (.int (Int32.ofNat (fs1 + wd1))), .val (.int (Int32.ofNat fs2)), .val (.int (Int32.ofNat (fs2 + wd2))), .val (.int (Int32.ofNat x1)), .val (.int (Int32.ofNat y1)), .val (.int (Int32.ofNat lo)), .val (.int (Int32.ofNat hi)), .val (.ref b139), .unset, .unset, .unset, .unset, .unset, .unset, .unset, .unset, .unset, .unset] [(.long (own_cs (own_set (own_set (own_set (fun _ => (0 : Int32)) 0 (Int32.ofNat (fs0 + wd0))) (0 + 1) (Int32.ofNat (fs1 + wd1))) ((0 + 1) + 1) (Int32.ofNat (fs2 + wd2))) (own_set (own_set (own_set (fun _ => (0 : Int32)) 0 (Int32.ofNat fs0)) (0 + 1) (Int32.ofNat fs1)) ((0 + 1) + 1) (Int32.ofNat fs2)) lo (hi - lo)))]))) (fun t kt => st163.trans kt) ?_
  refine own_Go.of (S' := (T163.setTop (mkF m 177 #[.val (.long p0), .second, .val (.long p1), .second, .val (.long p2), .second, .val (.int p3), .val (.int (Int32.ofNat fs0)), .val (.int (Int32.ofNat (fs0 + wd0))), .val (.int (Int32.ofNat fs1)), .val (.int (Int32.ofNat (fs1 + wd1))), .val (.int (Int32.ofNat fs2)), .val (.int (Int32.ofNat (fs2 + wd2))), .val (.int (Int32.ofNat x1)), .val (.int (Int32.ofNat y1)), .val (.int (Int32.ofNat lo)), .val (.int (Int32.ofNat hi)), .val (.ref b139), .val (.long (own_cs (own_set (own_set (own_set (fun _ => (0 : Int32)) 0 (Int32.ofNat (fs0 + wd0))) (0 + 1) (Int32.ofNat (fs1 + wd1))) ((0 + 1) + 1) (Int32.ofNat (fs2 + wd2))) (own_set (own_set (own_set (fun _ => (0 : Int32)) 0 (Int32.ofNat fs0)) (0 + 1) (Int32.ofNat fs1)) ((0 + 1) + 1) (Int32.ofNat fs2)) lo (hi - lo))), .second, .val (.long ((((Int32.ofNat (fs0 + wd0)).toInt64) - ((Int32.ofNat fs0).toInt64)) + (1 : Int64))), .second, .val (.long ((((Int32.ofNat (fs1 + wd1)).toInt64) - ((Int32.ofNat fs1).toInt64)) + (1 : Int64))), .second, .val (.long ((((Int32.ofNat (fs2 + wd2)).toInt64) - ((Int32.ofNat fs2).toInt64)) + (1 : Int64))), .second, .unset, .unset] [(.long ((((Int32.ofNat (fs0 + wd0)).toInt64) - ((Int32.ofNat fs0).toInt64)) + (1 : Int64))), (.int (0 : Int32)), (.int (Int32.ofNat hi)), (.int (Int32.ofNat lo))]))) (fun t kt => ?_) ?_
  · show Steps p.tables e below (T163.setTop (mkF m 135 #[.val (.long p0), .second, .val (.long p1), .second, .val (.long p2), .second, .val (.int p3), .val (.int (Int32.ofNat fs0)), .val (.int (Int32.ofNat (fs0 + wd0))), .val (.int (Int32.ofNat fs1)), .val (.int (Int32.ofNat (fs1 + wd1))), .val (.int (Int32.ofNat fs2)), .val (.int (Int32.ofNat (fs2 + wd2))), .val (.int (Int32.ofNat x1)), .val (.int (Int32.ofNat y1)), .val (.int (Int32.ofNat lo)), .val (.int (Int32.ofNat hi)), .val (.ref b139), .unset, .unset, .unset, .unset, .unset, .unset, .unset, .unset, .unset, .unset] [(.long (own_cs (own_set (own_set (own_set (fun _ => (0 : Int32)) 0 (Int32.ofNat (fs0 + wd0))) (0 + 1) (Int32.ofNat (fs1 + wd1))) ((0 + 1) + 1) (Int32.ofNat (fs2 + wd2))) (own_set (own_set (own_set (fun _ => (0 : Int32)) 0 (Int32.ofNat fs0)) (0 + 1) (Int32.ofNat fs1)) ((0 + 1) + 1) (Int32.ofNat fs2)) lo (hi - lo)))])) _
    refine XS.lstore X163.here hx rfl (own_hb hby at_135) rfl (l' := #[.val (.long p0), .second, .val (.long p1), .second, .val (.long p2), .second, .val (.int p3), .val (.int (Int32.ofNat fs0)), .val (.int (Int32.ofNat (fs0 + wd0))), .val (.int (Int32.ofNat fs1)), .val (.int (Int32.ofNat (fs1 + wd1))), .val (.int (Int32.ofNat fs2)), .val (.int (Int32.ofNat (fs2 + wd2))), .val (.int (Int32.ofNat x1)), .val (.int (Int32.ofNat y1)), .val (.int (Int32.ofNat lo)), .val (.int (Int32.ofNat hi)), .val (.ref b139), .val (.long (own_cs (own_set (own_set (own_set (fun _ => (0 : Int32)) 0 (Int32.ofNat (fs0 + wd0))) (0 + 1) (Int32.ofNat (fs1 + wd1))) ((0 + 1) + 1) (Int32.ofNat (fs2 + wd2))) (own_set (own_set (own_set (fun _ => (0 : Int32)) 0 (Int32.ofNat fs0)) (0 + 1) (Int32.ofNat fs1)) ((0 + 1) + 1) (Int32.ofNat fs2)) lo (hi - lo))), .second, .unset, .unset, .unset, .unset, .unset, .unset, .unset, .unset]) rfl ?_
    show Steps p.tables e below (T163.setTop (mkF m 137 #[.val (.long p0), .second, .val (.long p1), .second, .val (.long p2), .second, .val (.int p3), .val (.int (Int32.ofNat fs0)), .val (.int (Int32.ofNat (fs0 + wd0))), .val (.int (Int32.ofNat fs1)), .val (.int (Int32.ofNat (fs1 + wd1))), .val (.int (Int32.ofNat fs2)), .val (.int (Int32.ofNat (fs2 + wd2))), .val (.int (Int32.ofNat x1)), .val (.int (Int32.ofNat y1)), .val (.int (Int32.ofNat lo)), .val (.int (Int32.ofNat hi)), .val (.ref b139), .val (.long (own_cs (own_set (own_set (own_set (fun _ => (0 : Int32)) 0 (Int32.ofNat (fs0 + wd0))) (0 + 1) (Int32.ofNat (fs1 + wd1))) ((0 + 1) + 1) (Int32.ofNat (fs2 + wd2))) (own_set (own_set (own_set (fun _ => (0 : Int32)) 0 (Int32.ofNat fs0)) (0 + 1) (Int32.ofNat fs1)) ((0 + 1) + 1) (Int32.ofNat fs2)) lo (hi - lo))), .second, .unset, .unset, .unset, .unset, .unset, .unset, .unset, .unset] [])) _
    refine XS.iload X163.here hx rfl (own_hb hby at_137) rfl ?_
    show Steps p.tables e below (T163.setTop (mkF m 139 #[.val (.long p0), .second, .val (.long p1), .second, .val (.long p2), .second, .val (.int p3), .val (.int (Int32.ofNat fs0)), .val (.int (Int32.ofNat (fs0 + wd0))), .val (.int (Int32.ofNat fs1)), .val (.int (Int32.ofNat (fs1 + wd1))), .val (.int (Int32.ofNat fs2)), .val (.int (Int32.ofNat (fs2 + wd2))), .val (.int (Int32.ofNat x1)), .val (.int (Int32.ofNat y1)), .val (.int (Int32.ofNat lo)), .val (.int (Int32.ofNat hi)), .val (.ref b139), .val (.long (own_cs (own_set (own_set (own_set (fun _ => (0 : Int32)) 0 (Int32.ofNat (fs0 + wd0))) (0 + 1) (Int32.ofNat (fs1 + wd1))) ((0 + 1) + 1) (Int32.ofNat (fs2 + wd2))) (own_set (own_set (own_set (fun _ => (0 : Int32)) 0 (Int32.ofNat fs0)) (0 + 1) (Int32.ofNat fs1)) ((0 + 1) + 1) (Int32.ofNat fs2)) lo (hi - lo))), .second, .unset, .unset, .unset, .unset, .unset, .unset, .unset, .unset] [(.int (Int32.ofNat (fs0 + wd0)))])) _
    refine XS.i2l X163.here hx rfl (own_hb hby at_139) rfl ?_
    show Steps p.tables e below (T163.setTop (mkF m 140 #[.val (.long p0), .second, .val (.long p1), .second, .val (.long p2), .second, .val (.int p3), .val (.int (Int32.ofNat fs0)), .val (.int (Int32.ofNat (fs0 + wd0))), .val (.int (Int32.ofNat fs1)), .val (.int (Int32.ofNat (fs1 + wd1))), .val (.int (Int32.ofNat fs2)), .val (.int (Int32.ofNat (fs2 + wd2))), .val (.int (Int32.ofNat x1)), .val (.int (Int32.ofNat y1)), .val (.int (Int32.ofNat lo)), .val (.int (Int32.ofNat hi)), .val (.ref b139), .val (.long (own_cs (own_set (own_set (own_set (fun _ => (0 : Int32)) 0 (Int32.ofNat (fs0 + wd0))) (0 + 1) (Int32.ofNat (fs1 + wd1))) ((0 + 1) + 1) (Int32.ofNat (fs2 + wd2))) (own_set (own_set (own_set (fun _ => (0 : Int32)) 0 (Int32.ofNat fs0)) (0 + 1) (Int32.ofNat fs1)) ((0 + 1) + 1) (Int32.ofNat fs2)) lo (hi - lo))), .second, .unset, .unset, .unset, .unset, .unset, .unset, .unset, .unset] [(.long ((Int32.ofNat (fs0 + wd0)).toInt64))])) _
    refine XS.iload X163.here hx rfl (own_hb hby at_140) rfl ?_
    show Steps p.tables e below (T163.setTop (mkF m 142 #[.val (.long p0), .second, .val (.long p1), .second, .val (.long p2), .second, .val (.int p3), .val (.int (Int32.ofNat fs0)), .val (.int (Int32.ofNat (fs0 + wd0))), .val (.int (Int32.ofNat fs1)), .val (.int (Int32.ofNat (fs1 + wd1))), .val (.int (Int32.ofNat fs2)), .val (.int (Int32.ofNat (fs2 + wd2))), .val (.int (Int32.ofNat x1)), .val (.int (Int32.ofNat y1)), .val (.int (Int32.ofNat lo)), .val (.int (Int32.ofNat hi)), .val (.ref b139), .val (.long (own_cs (own_set (own_set (own_set (fun _ => (0 : Int32)) 0 (Int32.ofNat (fs0 + wd0))) (0 + 1) (Int32.ofNat (fs1 + wd1))) ((0 + 1) + 1) (Int32.ofNat (fs2 + wd2))) (own_set (own_set (own_set (fun _ => (0 : Int32)) 0 (Int32.ofNat fs0)) (0 + 1) (Int32.ofNat fs1)) ((0 + 1) + 1) (Int32.ofNat fs2)) lo (hi - lo))), .second, .unset, .unset, .unset, .unset, .unset, .unset, .unset, .unset] [(.int (Int32.ofNat fs0)), (.long ((Int32.ofNat (fs0 + wd0)).toInt64))])) _
    refine XS.i2l X163.here hx rfl (own_hb hby at_142) rfl ?_
    show Steps p.tables e below (T163.setTop (mkF m 143 #[.val (.long p0), .second, .val (.long p1), .second, .val (.long p2), .second, .val (.int p3), .val (.int (Int32.ofNat fs0)), .val (.int (Int32.ofNat (fs0 + wd0))), .val (.int (Int32.ofNat fs1)), .val (.int (Int32.ofNat (fs1 + wd1))), .val (.int (Int32.ofNat fs2)), .val (.int (Int32.ofNat (fs2 + wd2))), .val (.int (Int32.ofNat x1)), .val (.int (Int32.ofNat y1)), .val (.int (Int32.ofNat lo)), .val (.int (Int32.ofNat hi)), .val (.ref b139), .val (.long (own_cs (own_set (own_set (own_set (fun _ => (0 : Int32)) 0 (Int32.ofNat (fs0 + wd0))) (0 + 1) (Int32.ofNat (fs1 + wd1))) ((0 + 1) + 1) (Int32.ofNat (fs2 + wd2))) (own_set (own_set (own_set (fun _ => (0 : Int32)) 0 (Int32.ofNat fs0)) (0 + 1) (Int32.ofNat fs1)) ((0 + 1) + 1) (Int32.ofNat fs2)) lo (hi - lo))), .second, .unset, .unset, .unset, .unset, .unset, .unset, .unset, .unset] [(.long ((Int32.ofNat fs0).toInt64)), (.long ((Int32.ofNat (fs0 + wd0)).toInt64))])) _
    refine XS.lsub X163.here hx rfl (own_hb hby at_143) rfl ?_
    show Steps p.tables e below (T163.setTop (mkF m 144 #[.val (.long p0), .second, .val (.long p1), .second, .val (.long p2), .second, .val (.int p3), .val (.int (Int32.ofNat fs0)), .val (.int (Int32.ofNat (fs0 + wd0))), .val (.int (Int32.ofNat fs1)), .val (.int (Int32.ofNat (fs1 + wd1))), .val (.int (Int32.ofNat fs2)), .val (.int (Int32.ofNat (fs2 + wd2))), .val (.int (Int32.ofNat x1)), .val (.int (Int32.ofNat y1)), .val (.int (Int32.ofNat lo)), .val (.int (Int32.ofNat hi)), .val (.ref b139), .val (.long (own_cs (own_set (own_set (own_set (fun _ => (0 : Int32)) 0 (Int32.ofNat (fs0 + wd0))) (0 + 1) (Int32.ofNat (fs1 + wd1))) ((0 + 1) + 1) (Int32.ofNat (fs2 + wd2))) (own_set (own_set (own_set (fun _ => (0 : Int32)) 0 (Int32.ofNat fs0)) (0 + 1) (Int32.ofNat fs1)) ((0 + 1) + 1) (Int32.ofNat fs2)) lo (hi - lo))), .second, .unset, .unset, .unset, .unset, .unset, .unset, .unset, .unset] [(.long (((Int32.ofNat (fs0 + wd0)).toInt64) - ((Int32.ofNat fs0).toInt64)))])) _
    refine XS.lconst X163.here hx rfl (own_hb hby at_144) ?_
    show Steps p.tables e below (T163.setTop (mkF m 145 #[.val (.long p0), .second, .val (.long p1), .second, .val (.long p2), .second, .val (.int p3), .val (.int (Int32.ofNat fs0)), .val (.int (Int32.ofNat (fs0 + wd0))), .val (.int (Int32.ofNat fs1)), .val (.int (Int32.ofNat (fs1 + wd1))), .val (.int (Int32.ofNat fs2)), .val (.int (Int32.ofNat (fs2 + wd2))), .val (.int (Int32.ofNat x1)), .val (.int (Int32.ofNat y1)), .val (.int (Int32.ofNat lo)), .val (.int (Int32.ofNat hi)), .val (.ref b139), .val (.long (own_cs (own_set (own_set (own_set (fun _ => (0 : Int32)) 0 (Int32.ofNat (fs0 + wd0))) (0 + 1) (Int32.ofNat (fs1 + wd1))) ((0 + 1) + 1) (Int32.ofNat (fs2 + wd2))) (own_set (own_set (own_set (fun _ => (0 : Int32)) 0 (Int32.ofNat fs0)) (0 + 1) (Int32.ofNat fs1)) ((0 + 1) + 1) (Int32.ofNat fs2)) lo (hi - lo))), .second, .unset, .unset, .unset, .unset, .unset, .unset, .unset, .unset] [(.long (1 : Int64)), (.long (((Int32.ofNat (fs0 + wd0)).toInt64) - ((Int32.ofNat fs0).toInt64)))])) _
    refine XS.ladd X163.here hx rfl (own_hb hby at_145) rfl ?_
    show Steps p.tables e below (T163.setTop (mkF m 146 #[.val (.long p0), .second, .val (.long p1), .second, .val (.long p2), .second, .val (.int p3), .val (.int (Int32.ofNat fs0)), .val (.int (Int32.ofNat (fs0 + wd0))), .val (.int (Int32.ofNat fs1)), .val (.int (Int32.ofNat (fs1 + wd1))), .val (.int (Int32.ofNat fs2)), .val (.int (Int32.ofNat (fs2 + wd2))), .val (.int (Int32.ofNat x1)), .val (.int (Int32.ofNat y1)), .val (.int (Int32.ofNat lo)), .val (.int (Int32.ofNat hi)), .val (.ref b139), .val (.long (own_cs (own_set (own_set (own_set (fun _ => (0 : Int32)) 0 (Int32.ofNat (fs0 + wd0))) (0 + 1) (Int32.ofNat (fs1 + wd1))) ((0 + 1) + 1) (Int32.ofNat (fs2 + wd2))) (own_set (own_set (own_set (fun _ => (0 : Int32)) 0 (Int32.ofNat fs0)) (0 + 1) (Int32.ofNat fs1)) ((0 + 1) + 1) (Int32.ofNat fs2)) lo (hi - lo))), .second, .unset, .unset, .unset, .unset, .unset, .unset, .unset, .unset] [(.long ((((Int32.ofNat (fs0 + wd0)).toInt64) - ((Int32.ofNat fs0).toInt64)) + (1 : Int64)))])) _
    refine XS.lstore X163.here hx rfl (own_hb hby at_146) rfl (l' := #[.val (.long p0), .second, .val (.long p1), .second, .val (.long p2), .second, .val (.int p3), .val (.int (Int32.ofNat fs0)), .val (.int (Int32.ofNat (fs0 + wd0))), .val (.int (Int32.ofNat fs1)), .val (.int (Int32.ofNat (fs1 + wd1))), .val (.int (Int32.ofNat fs2)), .val (.int (Int32.ofNat (fs2 + wd2))), .val (.int (Int32.ofNat x1)), .val (.int (Int32.ofNat y1)), .val (.int (Int32.ofNat lo)), .val (.int (Int32.ofNat hi)), .val (.ref b139), .val (.long (own_cs (own_set (own_set (own_set (fun _ => (0 : Int32)) 0 (Int32.ofNat (fs0 + wd0))) (0 + 1) (Int32.ofNat (fs1 + wd1))) ((0 + 1) + 1) (Int32.ofNat (fs2 + wd2))) (own_set (own_set (own_set (fun _ => (0 : Int32)) 0 (Int32.ofNat fs0)) (0 + 1) (Int32.ofNat fs1)) ((0 + 1) + 1) (Int32.ofNat fs2)) lo (hi - lo))), .second, .val (.long ((((Int32.ofNat (fs0 + wd0)).toInt64) - ((Int32.ofNat fs0).toInt64)) + (1 : Int64))), .second, .unset, .unset, .unset, .unset, .unset, .unset]) rfl ?_
    show Steps p.tables e below (T163.setTop (mkF m 148 #[.val (.long p0), .second, .val (.long p1), .second, .val (.long p2), .second, .val (.int p3), .val (.int (Int32.ofNat fs0)), .val (.int (Int32.ofNat (fs0 + wd0))), .val (.int (Int32.ofNat fs1)), .val (.int (Int32.ofNat (fs1 + wd1))), .val (.int (Int32.ofNat fs2)), .val (.int (Int32.ofNat (fs2 + wd2))), .val (.int (Int32.ofNat x1)), .val (.int (Int32.ofNat y1)), .val (.int (Int32.ofNat lo)), .val (.int (Int32.ofNat hi)), .val (.ref b139), .val (.long (own_cs (own_set (own_set (own_set (fun _ => (0 : Int32)) 0 (Int32.ofNat (fs0 + wd0))) (0 + 1) (Int32.ofNat (fs1 + wd1))) ((0 + 1) + 1) (Int32.ofNat (fs2 + wd2))) (own_set (own_set (own_set (fun _ => (0 : Int32)) 0 (Int32.ofNat fs0)) (0 + 1) (Int32.ofNat fs1)) ((0 + 1) + 1) (Int32.ofNat fs2)) lo (hi - lo))), .second, .val (.long ((((Int32.ofNat (fs0 + wd0)).toInt64) - ((Int32.ofNat fs0).toInt64)) + (1 : Int64))), .second, .unset, .unset, .unset, .unset, .unset, .unset] [])) _
    refine XS.iload X163.here hx rfl (own_hb hby at_148) rfl ?_
    show Steps p.tables e below (T163.setTop (mkF m 150 #[.val (.long p0), .second, .val (.long p1), .second, .val (.long p2), .second, .val (.int p3), .val (.int (Int32.ofNat fs0)), .val (.int (Int32.ofNat (fs0 + wd0))), .val (.int (Int32.ofNat fs1)), .val (.int (Int32.ofNat (fs1 + wd1))), .val (.int (Int32.ofNat fs2)), .val (.int (Int32.ofNat (fs2 + wd2))), .val (.int (Int32.ofNat x1)), .val (.int (Int32.ofNat y1)), .val (.int (Int32.ofNat lo)), .val (.int (Int32.ofNat hi)), .val (.ref b139), .val (.long (own_cs (own_set (own_set (own_set (fun _ => (0 : Int32)) 0 (Int32.ofNat (fs0 + wd0))) (0 + 1) (Int32.ofNat (fs1 + wd1))) ((0 + 1) + 1) (Int32.ofNat (fs2 + wd2))) (own_set (own_set (own_set (fun _ => (0 : Int32)) 0 (Int32.ofNat fs0)) (0 + 1) (Int32.ofNat fs1)) ((0 + 1) + 1) (Int32.ofNat fs2)) lo (hi - lo))), .second, .val (.long ((((Int32.ofNat (fs0 + wd0)).toInt64) - ((Int32.ofNat fs0).toInt64)) + (1 : Int64))), .second, .unset, .unset, .unset, .unset, .unset, .unset] [(.int (Int32.ofNat (fs1 + wd1)))])) _
    refine XS.i2l X163.here hx rfl (own_hb hby at_150) rfl ?_
    show Steps p.tables e below (T163.setTop (mkF m 151 #[.val (.long p0), .second, .val (.long p1), .second, .val (.long p2), .second, .val (.int p3), .val (.int (Int32.ofNat fs0)), .val (.int (Int32.ofNat (fs0 + wd0))), .val (.int (Int32.ofNat fs1)), .val (.int (Int32.ofNat (fs1 + wd1))), .val (.int (Int32.ofNat fs2)), .val (.int (Int32.ofNat (fs2 + wd2))), .val (.int (Int32.ofNat x1)), .val (.int (Int32.ofNat y1)), .val (.int (Int32.ofNat lo)), .val (.int (Int32.ofNat hi)), .val (.ref b139), .val (.long (own_cs (own_set (own_set (own_set (fun _ => (0 : Int32)) 0 (Int32.ofNat (fs0 + wd0))) (0 + 1) (Int32.ofNat (fs1 + wd1))) ((0 + 1) + 1) (Int32.ofNat (fs2 + wd2))) (own_set (own_set (own_set (fun _ => (0 : Int32)) 0 (Int32.ofNat fs0)) (0 + 1) (Int32.ofNat fs1)) ((0 + 1) + 1) (Int32.ofNat fs2)) lo (hi - lo))), .second, .val (.long ((((Int32.ofNat (fs0 + wd0)).toInt64) - ((Int32.ofNat fs0).toInt64)) + (1 : Int64))), .second, .unset, .unset, .unset, .unset, .unset, .unset] [(.long ((Int32.ofNat (fs1 + wd1)).toInt64))])) _
    refine XS.iload X163.here hx rfl (own_hb hby at_151) rfl ?_
    show Steps p.tables e below (T163.setTop (mkF m 153 #[.val (.long p0), .second, .val (.long p1), .second, .val (.long p2), .second, .val (.int p3), .val (.int (Int32.ofNat fs0)), .val (.int (Int32.ofNat (fs0 + wd0))), .val (.int (Int32.ofNat fs1)), .val (.int (Int32.ofNat (fs1 + wd1))), .val (.int (Int32.ofNat fs2)), .val (.int (Int32.ofNat (fs2 + wd2))), .val (.int (Int32.ofNat x1)), .val (.int (Int32.ofNat y1)), .val (.int (Int32.ofNat lo)), .val (.int (Int32.ofNat hi)), .val (.ref b139), .val (.long (own_cs (own_set (own_set (own_set (fun _ => (0 : Int32)) 0 (Int32.ofNat (fs0 + wd0))) (0 + 1) (Int32.ofNat (fs1 + wd1))) ((0 + 1) + 1) (Int32.ofNat (fs2 + wd2))) (own_set (own_set (own_set (fun _ => (0 : Int32)) 0 (Int32.ofNat fs0)) (0 + 1) (Int32.ofNat fs1)) ((0 + 1) + 1) (Int32.ofNat fs2)) lo (hi - lo))), .second, .val (.long ((((Int32.ofNat (fs0 + wd0)).toInt64) - ((Int32.ofNat fs0).toInt64)) + (1 : Int64))), .second, .unset, .unset, .unset, .unset, .unset, .unset] [(.int (Int32.ofNat fs1)), (.long ((Int32.ofNat (fs1 + wd1)).toInt64))])) _
    refine XS.i2l X163.here hx rfl (own_hb hby at_153) rfl ?_
    show Steps p.tables e below (T163.setTop (mkF m 154 #[.val (.long p0), .second, .val (.long p1), .second, .val (.long p2), .second, .val (.int p3), .val (.int (Int32.ofNat fs0)), .val (.int (Int32.ofNat (fs0 + wd0))), .val (.int (Int32.ofNat fs1)), .val (.int (Int32.ofNat (fs1 + wd1))), .val (.int (Int32.ofNat fs2)), .val (.int (Int32.ofNat (fs2 + wd2))), .val (.int (Int32.ofNat x1)), .val (.int (Int32.ofNat y1)), .val (.int (Int32.ofNat lo)), .val (.int (Int32.ofNat hi)), .val (.ref b139), .val (.long (own_cs (own_set (own_set (own_set (fun _ => (0 : Int32)) 0 (Int32.ofNat (fs0 + wd0))) (0 + 1) (Int32.ofNat (fs1 + wd1))) ((0 + 1) + 1) (Int32.ofNat (fs2 + wd2))) (own_set (own_set (own_set (fun _ => (0 : Int32)) 0 (Int32.ofNat fs0)) (0 + 1) (Int32.ofNat fs1)) ((0 + 1) + 1) (Int32.ofNat fs2)) lo (hi - lo))), .second, .val (.long ((((Int32.ofNat (fs0 + wd0)).toInt64) - ((Int32.ofNat fs0).toInt64)) + (1 : Int64))), .second, .unset, .unset, .unset, .unset, .unset, .unset] [(.long ((Int32.ofNat fs1).toInt64)), (.long ((Int32.ofNat (fs1 + wd1)).toInt64))])) _
    refine XS.lsub X163.here hx rfl (own_hb hby at_154) rfl ?_
    show Steps p.tables e below (T163.setTop (mkF m 155 #[.val (.long p0), .second, .val (.long p1), .second, .val (.long p2), .second, .val (.int p3), .val (.int (Int32.ofNat fs0)), .val (.int (Int32.ofNat (fs0 + wd0))), .val (.int (Int32.ofNat fs1)), .val (.int (Int32.ofNat (fs1 + wd1))), .val (.int (Int32.ofNat fs2)), .val (.int (Int32.ofNat (fs2 + wd2))), .val (.int (Int32.ofNat x1)), .val (.int (Int32.ofNat y1)), .val (.int (Int32.ofNat lo)), .val (.int (Int32.ofNat hi)), .val (.ref b139), .val (.long (own_cs (own_set (own_set (own_set (fun _ => (0 : Int32)) 0 (Int32.ofNat (fs0 + wd0))) (0 + 1) (Int32.ofNat (fs1 + wd1))) ((0 + 1) + 1) (Int32.ofNat (fs2 + wd2))) (own_set (own_set (own_set (fun _ => (0 : Int32)) 0 (Int32.ofNat fs0)) (0 + 1) (Int32.ofNat fs1)) ((0 + 1) + 1) (Int32.ofNat fs2)) lo (hi - lo))), .second, .val (.long ((((Int32.ofNat (fs0 + wd0)).toInt64) - ((Int32.ofNat fs0).toInt64)) + (1 : Int64))), .second, .unset, .unset, .unset, .unset, .unset, .unset] [(.long (((Int32.ofNat (fs1 + wd1)).toInt64) - ((Int32.ofNat fs1).toInt64)))])) _
    refine XS.lconst X163.here hx rfl (own_hb hby at_155) ?_
    show Steps p.tables e below (T163.setTop (mkF m 156 #[.val (.long p0), .second, .val (.long p1), .second, .val (.long p2), .second, .val (.int p3), .val (.int (Int32.ofNat fs0)), .val (.int (Int32.ofNat (fs0 + wd0))), .val (.int (Int32.ofNat fs1)), .val (.int (Int32.ofNat (fs1 + wd1))), .val (.int (Int32.ofNat fs2)), .val (.int (Int32.ofNat (fs2 + wd2))), .val (.int (Int32.ofNat x1)), .val (.int (Int32.ofNat y1)), .val (.int (Int32.ofNat lo)), .val (.int (Int32.ofNat hi)), .val (.ref b139), .val (.long (own_cs (own_set (own_set (own_set (fun _ => (0 : Int32)) 0 (Int32.ofNat (fs0 + wd0))) (0 + 1) (Int32.ofNat (fs1 + wd1))) ((0 + 1) + 1) (Int32.ofNat (fs2 + wd2))) (own_set (own_set (own_set (fun _ => (0 : Int32)) 0 (Int32.ofNat fs0)) (0 + 1) (Int32.ofNat fs1)) ((0 + 1) + 1) (Int32.ofNat fs2)) lo (hi - lo))), .second, .val (.long ((((Int32.ofNat (fs0 + wd0)).toInt64) - ((Int32.ofNat fs0).toInt64)) + (1 : Int64))), .second, .unset, .unset, .unset, .unset, .unset, .unset] [(.long (1 : Int64)), (.long (((Int32.ofNat (fs1 + wd1)).toInt64) - ((Int32.ofNat fs1).toInt64)))])) _
    refine XS.ladd X163.here hx rfl (own_hb hby at_156) rfl ?_
    show Steps p.tables e below (T163.setTop (mkF m 157 #[.val (.long p0), .second, .val (.long p1), .second, .val (.long p2), .second, .val (.int p3), .val (.int (Int32.ofNat fs0)), .val (.int (Int32.ofNat (fs0 + wd0))), .val (.int (Int32.ofNat fs1)), .val (.int (Int32.ofNat (fs1 + wd1))), .val (.int (Int32.ofNat fs2)), .val (.int (Int32.ofNat (fs2 + wd2))), .val (.int (Int32.ofNat x1)), .val (.int (Int32.ofNat y1)), .val (.int (Int32.ofNat lo)), .val (.int (Int32.ofNat hi)), .val (.ref b139), .val (.long (own_cs (own_set (own_set (own_set (fun _ => (0 : Int32)) 0 (Int32.ofNat (fs0 + wd0))) (0 + 1) (Int32.ofNat (fs1 + wd1))) ((0 + 1) + 1) (Int32.ofNat (fs2 + wd2))) (own_set (own_set (own_set (fun _ => (0 : Int32)) 0 (Int32.ofNat fs0)) (0 + 1) (Int32.ofNat fs1)) ((0 + 1) + 1) (Int32.ofNat fs2)) lo (hi - lo))), .second, .val (.long ((((Int32.ofNat (fs0 + wd0)).toInt64) - ((Int32.ofNat fs0).toInt64)) + (1 : Int64))), .second, .unset, .unset, .unset, .unset, .unset, .unset] [(.long ((((Int32.ofNat (fs1 + wd1)).toInt64) - ((Int32.ofNat fs1).toInt64)) + (1 : Int64)))])) _
    refine XS.lstore X163.here hx rfl (own_hb hby at_157) rfl (l' := #[.val (.long p0), .second, .val (.long p1), .second, .val (.long p2), .second, .val (.int p3), .val (.int (Int32.ofNat fs0)), .val (.int (Int32.ofNat (fs0 + wd0))), .val (.int (Int32.ofNat fs1)), .val (.int (Int32.ofNat (fs1 + wd1))), .val (.int (Int32.ofNat fs2)), .val (.int (Int32.ofNat (fs2 + wd2))), .val (.int (Int32.ofNat x1)), .val (.int (Int32.ofNat y1)), .val (.int (Int32.ofNat lo)), .val (.int (Int32.ofNat hi)), .val (.ref b139), .val (.long (own_cs (own_set (own_set (own_set (fun _ => (0 : Int32)) 0 (Int32.ofNat (fs0 + wd0))) (0 + 1) (Int32.ofNat (fs1 + wd1))) ((0 + 1) + 1) (Int32.ofNat (fs2 + wd2))) (own_set (own_set (own_set (fun _ => (0 : Int32)) 0 (Int32.ofNat fs0)) (0 + 1) (Int32.ofNat fs1)) ((0 + 1) + 1) (Int32.ofNat fs2)) lo (hi - lo))), .second, .val (.long ((((Int32.ofNat (fs0 + wd0)).toInt64) - ((Int32.ofNat fs0).toInt64)) + (1 : Int64))), .second, .val (.long ((((Int32.ofNat (fs1 + wd1)).toInt64) - ((Int32.ofNat fs1).toInt64)) + (1 : Int64))), .second, .unset, .unset, .unset, .unset]) rfl ?_
    show Steps p.tables e below (T163.setTop (mkF m 159 #[.val (.long p0), .second, .val (.long p1), .second, .val (.long p2), .second, .val (.int p3), .val (.int (Int32.ofNat fs0)), .val (.int (Int32.ofNat (fs0 + wd0))), .val (.int (Int32.ofNat fs1)), .val (.int (Int32.ofNat (fs1 + wd1))), .val (.int (Int32.ofNat fs2)), .val (.int (Int32.ofNat (fs2 + wd2))), .val (.int (Int32.ofNat x1)), .val (.int (Int32.ofNat y1)), .val (.int (Int32.ofNat lo)), .val (.int (Int32.ofNat hi)), .val (.ref b139), .val (.long (own_cs (own_set (own_set (own_set (fun _ => (0 : Int32)) 0 (Int32.ofNat (fs0 + wd0))) (0 + 1) (Int32.ofNat (fs1 + wd1))) ((0 + 1) + 1) (Int32.ofNat (fs2 + wd2))) (own_set (own_set (own_set (fun _ => (0 : Int32)) 0 (Int32.ofNat fs0)) (0 + 1) (Int32.ofNat fs1)) ((0 + 1) + 1) (Int32.ofNat fs2)) lo (hi - lo))), .second, .val (.long ((((Int32.ofNat (fs0 + wd0)).toInt64) - ((Int32.ofNat fs0).toInt64)) + (1 : Int64))), .second, .val (.long ((((Int32.ofNat (fs1 + wd1)).toInt64) - ((Int32.ofNat fs1).toInt64)) + (1 : Int64))), .second, .unset, .unset, .unset, .unset] [])) _
    refine XS.iload X163.here hx rfl (own_hb hby at_159) rfl ?_
    show Steps p.tables e below (T163.setTop (mkF m 161 #[.val (.long p0), .second, .val (.long p1), .second, .val (.long p2), .second, .val (.int p3), .val (.int (Int32.ofNat fs0)), .val (.int (Int32.ofNat (fs0 + wd0))), .val (.int (Int32.ofNat fs1)), .val (.int (Int32.ofNat (fs1 + wd1))), .val (.int (Int32.ofNat fs2)), .val (.int (Int32.ofNat (fs2 + wd2))), .val (.int (Int32.ofNat x1)), .val (.int (Int32.ofNat y1)), .val (.int (Int32.ofNat lo)), .val (.int (Int32.ofNat hi)), .val (.ref b139), .val (.long (own_cs (own_set (own_set (own_set (fun _ => (0 : Int32)) 0 (Int32.ofNat (fs0 + wd0))) (0 + 1) (Int32.ofNat (fs1 + wd1))) ((0 + 1) + 1) (Int32.ofNat (fs2 + wd2))) (own_set (own_set (own_set (fun _ => (0 : Int32)) 0 (Int32.ofNat fs0)) (0 + 1) (Int32.ofNat fs1)) ((0 + 1) + 1) (Int32.ofNat fs2)) lo (hi - lo))), .second, .val (.long ((((Int32.ofNat (fs0 + wd0)).toInt64) - ((Int32.ofNat fs0).toInt64)) + (1 : Int64))), .second, .val (.long ((((Int32.ofNat (fs1 + wd1)).toInt64) - ((Int32.ofNat fs1).toInt64)) + (1 : Int64))), .second, .unset, .unset, .unset, .unset] [(.int (Int32.ofNat (fs2 + wd2)))])) _
    refine XS.i2l X163.here hx rfl (own_hb hby at_161) rfl ?_
    show Steps p.tables e below (T163.setTop (mkF m 162 #[.val (.long p0), .second, .val (.long p1), .second, .val (.long p2), .second, .val (.int p3), .val (.int (Int32.ofNat fs0)), .val (.int (Int32.ofNat (fs0 + wd0))), .val (.int (Int32.ofNat fs1)), .val (.int (Int32.ofNat (fs1 + wd1))), .val (.int (Int32.ofNat fs2)), .val (.int (Int32.ofNat (fs2 + wd2))), .val (.int (Int32.ofNat x1)), .val (.int (Int32.ofNat y1)), .val (.int (Int32.ofNat lo)), .val (.int (Int32.ofNat hi)), .val (.ref b139), .val (.long (own_cs (own_set (own_set (own_set (fun _ => (0 : Int32)) 0 (Int32.ofNat (fs0 + wd0))) (0 + 1) (Int32.ofNat (fs1 + wd1))) ((0 + 1) + 1) (Int32.ofNat (fs2 + wd2))) (own_set (own_set (own_set (fun _ => (0 : Int32)) 0 (Int32.ofNat fs0)) (0 + 1) (Int32.ofNat fs1)) ((0 + 1) + 1) (Int32.ofNat fs2)) lo (hi - lo))), .second, .val (.long ((((Int32.ofNat (fs0 + wd0)).toInt64) - ((Int32.ofNat fs0).toInt64)) + (1 : Int64))), .second, .val (.long ((((Int32.ofNat (fs1 + wd1)).toInt64) - ((Int32.ofNat fs1).toInt64)) + (1 : Int64))), .second, .unset, .unset, .unset, .unset] [(.long ((Int32.ofNat (fs2 + wd2)).toInt64))])) _
    refine XS.iload X163.here hx rfl (own_hb hby at_162) rfl ?_
    show Steps p.tables e below (T163.setTop (mkF m 164 #[.val (.long p0), .second, .val (.long p1), .second, .val (.long p2), .second, .val (.int p3), .val (.int (Int32.ofNat fs0)), .val (.int (Int32.ofNat (fs0 + wd0))), .val (.int (Int32.ofNat fs1)), .val (.int (Int32.ofNat (fs1 + wd1))), .val (.int (Int32.ofNat fs2)), .val (.int (Int32.ofNat (fs2 + wd2))), .val (.int (Int32.ofNat x1)), .val (.int (Int32.ofNat y1)), .val (.int (Int32.ofNat lo)), .val (.int (Int32.ofNat hi)), .val (.ref b139), .val (.long (own_cs (own_set (own_set (own_set (fun _ => (0 : Int32)) 0 (Int32.ofNat (fs0 + wd0))) (0 + 1) (Int32.ofNat (fs1 + wd1))) ((0 + 1) + 1) (Int32.ofNat (fs2 + wd2))) (own_set (own_set (own_set (fun _ => (0 : Int32)) 0 (Int32.ofNat fs0)) (0 + 1) (Int32.ofNat fs1)) ((0 + 1) + 1) (Int32.ofNat fs2)) lo (hi - lo))), .second, .val (.long ((((Int32.ofNat (fs0 + wd0)).toInt64) - ((Int32.ofNat fs0).toInt64)) + (1 : Int64))), .second, .val (.long ((((Int32.ofNat (fs1 + wd1)).toInt64) - ((Int32.ofNat fs1).toInt64)) + (1 : Int64))), .second, .unset, .unset, .unset, .unset] [(.int (Int32.ofNat fs2)), (.long ((Int32.ofNat (fs2 + wd2)).toInt64))])) _
    refine XS.i2l X163.here hx rfl (own_hb hby at_164) rfl ?_
    show Steps p.tables e below (T163.setTop (mkF m 165 #[.val (.long p0), .second, .val (.long p1), .second, .val (.long p2), .second, .val (.int p3), .val (.int (Int32.ofNat fs0)), .val (.int (Int32.ofNat (fs0 + wd0))), .val (.int (Int32.ofNat fs1)), .val (.int (Int32.ofNat (fs1 + wd1))), .val (.int (Int32.ofNat fs2)), .val (.int (Int32.ofNat (fs2 + wd2))), .val (.int (Int32.ofNat x1)), .val (.int (Int32.ofNat y1)), .val (.int (Int32.ofNat lo)), .val (.int (Int32.ofNat hi)), .val (.ref b139), .val (.long (own_cs (own_set (own_set (own_set (fun _ => (0 : Int32)) 0 (Int32.ofNat (fs0 + wd0))) (0 + 1) (Int32.ofNat (fs1 + wd1))) ((0 + 1) + 1) (Int32.ofNat (fs2 + wd2))) (own_set (own_set (own_set (fun _ => (0 : Int32)) 0 (Int32.ofNat fs0)) (0 + 1) (Int32.ofNat fs1)) ((0 + 1) + 1) (Int32.ofNat fs2)) lo (hi - lo))), .second, .val (.long ((((Int32.ofNat (fs0 + wd0)).toInt64) - ((Int32.ofNat fs0).toInt64)) + (1 : Int64))), .second, .val (.long ((((Int32.ofNat (fs1 + wd1)).toInt64) - ((Int32.ofNat fs1).toInt64)) + (1 : Int64))), .second, .unset, .unset, .unset, .unset] [(.long ((Int32.ofNat fs2).toInt64)), (.long ((Int32.ofNat (fs2 + wd2)).toInt64))])) _
    refine XS.lsub X163.here hx rfl (own_hb hby at_165) rfl ?_
    show Steps p.tables e below (T163.setTop (mkF m 166 #[.val (.long p0), .second, .val (.long p1), .second, .val (.long p2), .second, .val (.int p3), .val (.int (Int32.ofNat fs0)), .val (.int (Int32.ofNat (fs0 + wd0))), .val (.int (Int32.ofNat fs1)), .val (.int (Int32.ofNat (fs1 + wd1))), .val (.int (Int32.ofNat fs2)), .val (.int (Int32.ofNat (fs2 + wd2))), .val (.int (Int32.ofNat x1)), .val (.int (Int32.ofNat y1)), .val (.int (Int32.ofNat lo)), .val (.int (Int32.ofNat hi)), .val (.ref b139), .val (.long (own_cs (own_set (own_set (own_set (fun _ => (0 : Int32)) 0 (Int32.ofNat (fs0 + wd0))) (0 + 1) (Int32.ofNat (fs1 + wd1))) ((0 + 1) + 1) (Int32.ofNat (fs2 + wd2))) (own_set (own_set (own_set (fun _ => (0 : Int32)) 0 (Int32.ofNat fs0)) (0 + 1) (Int32.ofNat fs1)) ((0 + 1) + 1) (Int32.ofNat fs2)) lo (hi - lo))), .second, .val (.long ((((Int32.ofNat (fs0 + wd0)).toInt64) - ((Int32.ofNat fs0).toInt64)) + (1 : Int64))), .second, .val (.long ((((Int32.ofNat (fs1 + wd1)).toInt64) - ((Int32.ofNat fs1).toInt64)) + (1 : Int64))), .second, .unset, .unset, .unset, .unset] [(.long (((Int32.ofNat (fs2 + wd2)).toInt64) - ((Int32.ofNat fs2).toInt64)))])) _
    refine XS.lconst X163.here hx rfl (own_hb hby at_166) ?_
    show Steps p.tables e below (T163.setTop (mkF m 167 #[.val (.long p0), .second, .val (.long p1), .second, .val (.long p2), .second, .val (.int p3), .val (.int (Int32.ofNat fs0)), .val (.int (Int32.ofNat (fs0 + wd0))), .val (.int (Int32.ofNat fs1)), .val (.int (Int32.ofNat (fs1 + wd1))), .val (.int (Int32.ofNat fs2)), .val (.int (Int32.ofNat (fs2 + wd2))), .val (.int (Int32.ofNat x1)), .val (.int (Int32.ofNat y1)), .val (.int (Int32.ofNat lo)), .val (.int (Int32.ofNat hi)), .val (.ref b139), .val (.long (own_cs (own_set (own_set (own_set (fun _ => (0 : Int32)) 0 (Int32.ofNat (fs0 + wd0))) (0 + 1) (Int32.ofNat (fs1 + wd1))) ((0 + 1) + 1) (Int32.ofNat (fs2 + wd2))) (own_set (own_set (own_set (fun _ => (0 : Int32)) 0 (Int32.ofNat fs0)) (0 + 1) (Int32.ofNat fs1)) ((0 + 1) + 1) (Int32.ofNat fs2)) lo (hi - lo))), .second, .val (.long ((((Int32.ofNat (fs0 + wd0)).toInt64) - ((Int32.ofNat fs0).toInt64)) + (1 : Int64))), .second, .val (.long ((((Int32.ofNat (fs1 + wd1)).toInt64) - ((Int32.ofNat fs1).toInt64)) + (1 : Int64))), .second, .unset, .unset, .unset, .unset] [(.long (1 : Int64)), (.long (((Int32.ofNat (fs2 + wd2)).toInt64) - ((Int32.ofNat fs2).toInt64)))])) _
    refine XS.ladd X163.here hx rfl (own_hb hby at_167) rfl ?_
    show Steps p.tables e below (T163.setTop (mkF m 168 #[.val (.long p0), .second, .val (.long p1), .second, .val (.long p2), .second, .val (.int p3), .val (.int (Int32.ofNat fs0)), .val (.int (Int32.ofNat (fs0 + wd0))), .val (.int (Int32.ofNat fs1)), .val (.int (Int32.ofNat (fs1 + wd1))), .val (.int (Int32.ofNat fs2)), .val (.int (Int32.ofNat (fs2 + wd2))), .val (.int (Int32.ofNat x1)), .val (.int (Int32.ofNat y1)), .val (.int (Int32.ofNat lo)), .val (.int (Int32.ofNat hi)), .val (.ref b139), .val (.long (own_cs (own_set (own_set (own_set (fun _ => (0 : Int32)) 0 (Int32.ofNat (fs0 + wd0))) (0 + 1) (Int32.ofNat (fs1 + wd1))) ((0 + 1) + 1) (Int32.ofNat (fs2 + wd2))) (own_set (own_set (own_set (fun _ => (0 : Int32)) 0 (Int32.ofNat fs0)) (0 + 1) (Int32.ofNat fs1)) ((0 + 1) + 1) (Int32.ofNat fs2)) lo (hi - lo))), .second, .val (.long ((((Int32.ofNat (fs0 + wd0)).toInt64) - ((Int32.ofNat fs0).toInt64)) + (1 : Int64))), .second, .val (.long ((((Int32.ofNat (fs1 + wd1)).toInt64) - ((Int32.ofNat fs1).toInt64)) + (1 : Int64))), .second, .unset, .unset, .unset, .unset] [(.long ((((Int32.ofNat (fs2 + wd2)).toInt64) - ((Int32.ofNat fs2).toInt64)) + (1 : Int64)))])) _
    refine XS.lstore X163.here hx rfl (own_hb hby at_168) rfl (l' := #[.val (.long p0), .second, .val (.long p1), .second, .val (.long p2), .second, .val (.int p3), .val (.int (Int32.ofNat fs0)), .val (.int (Int32.ofNat (fs0 + wd0))), .val (.int (Int32.ofNat fs1)), .val (.int (Int32.ofNat (fs1 + wd1))), .val (.int (Int32.ofNat fs2)), .val (.int (Int32.ofNat (fs2 + wd2))), .val (.int (Int32.ofNat x1)), .val (.int (Int32.ofNat y1)), .val (.int (Int32.ofNat lo)), .val (.int (Int32.ofNat hi)), .val (.ref b139), .val (.long (own_cs (own_set (own_set (own_set (fun _ => (0 : Int32)) 0 (Int32.ofNat (fs0 + wd0))) (0 + 1) (Int32.ofNat (fs1 + wd1))) ((0 + 1) + 1) (Int32.ofNat (fs2 + wd2))) (own_set (own_set (own_set (fun _ => (0 : Int32)) 0 (Int32.ofNat fs0)) (0 + 1) (Int32.ofNat fs1)) ((0 + 1) + 1) (Int32.ofNat fs2)) lo (hi - lo))), .second, .val (.long ((((Int32.ofNat (fs0 + wd0)).toInt64) - ((Int32.ofNat fs0).toInt64)) + (1 : Int64))), .second, .val (.long ((((Int32.ofNat (fs1 + wd1)).toInt64) - ((Int32.ofNat fs1).toInt64)) + (1 : Int64))), .second, .val (.long ((((Int32.ofNat (fs2 + wd2)).toInt64) - ((Int32.ofNat fs2).toInt64)) + (1 : Int64))), .second, .unset, .unset]) rfl ?_
    show Steps p.tables e below (T163.setTop (mkF m 170 #[.val (.long p0), .second, .val (.long p1), .second, .val (.long p2), .second, .val (.int p3), .val (.int (Int32.ofNat fs0)), .val (.int (Int32.ofNat (fs0 + wd0))), .val (.int (Int32.ofNat fs1)), .val (.int (Int32.ofNat (fs1 + wd1))), .val (.int (Int32.ofNat fs2)), .val (.int (Int32.ofNat (fs2 + wd2))), .val (.int (Int32.ofNat x1)), .val (.int (Int32.ofNat y1)), .val (.int (Int32.ofNat lo)), .val (.int (Int32.ofNat hi)), .val (.ref b139), .val (.long (own_cs (own_set (own_set (own_set (fun _ => (0 : Int32)) 0 (Int32.ofNat (fs0 + wd0))) (0 + 1) (Int32.ofNat (fs1 + wd1))) ((0 + 1) + 1) (Int32.ofNat (fs2 + wd2))) (own_set (own_set (own_set (fun _ => (0 : Int32)) 0 (Int32.ofNat fs0)) (0 + 1) (Int32.ofNat fs1)) ((0 + 1) + 1) (Int32.ofNat fs2)) lo (hi - lo))), .second, .val (.long ((((Int32.ofNat (fs0 + wd0)).toInt64) - ((Int32.ofNat fs0).toInt64)) + (1 : Int64))), .second, .val (.long ((((Int32.ofNat (fs1 + wd1)).toInt64) - ((Int32.ofNat fs1).toInt64)) + (1 : Int64))), .second, .val (.long ((((Int32.ofNat (fs2 + wd2)).toInt64) - ((Int32.ofNat fs2).toInt64)) + (1 : Int64))), .second, .unset, .unset] [])) _
    refine XS.iload X163.here hx rfl (own_hb hby at_170) rfl ?_
    show Steps p.tables e below (T163.setTop (mkF m 172 #[.val (.long p0), .second, .val (.long p1), .second, .val (.long p2), .second, .val (.int p3), .val (.int (Int32.ofNat fs0)), .val (.int (Int32.ofNat (fs0 + wd0))), .val (.int (Int32.ofNat fs1)), .val (.int (Int32.ofNat (fs1 + wd1))), .val (.int (Int32.ofNat fs2)), .val (.int (Int32.ofNat (fs2 + wd2))), .val (.int (Int32.ofNat x1)), .val (.int (Int32.ofNat y1)), .val (.int (Int32.ofNat lo)), .val (.int (Int32.ofNat hi)), .val (.ref b139), .val (.long (own_cs (own_set (own_set (own_set (fun _ => (0 : Int32)) 0 (Int32.ofNat (fs0 + wd0))) (0 + 1) (Int32.ofNat (fs1 + wd1))) ((0 + 1) + 1) (Int32.ofNat (fs2 + wd2))) (own_set (own_set (own_set (fun _ => (0 : Int32)) 0 (Int32.ofNat fs0)) (0 + 1) (Int32.ofNat fs1)) ((0 + 1) + 1) (Int32.ofNat fs2)) lo (hi - lo))), .second, .val (.long ((((Int32.ofNat (fs0 + wd0)).toInt64) - ((Int32.ofNat fs0).toInt64)) + (1 : Int64))), .second, .val (.long ((((Int32.ofNat (fs1 + wd1)).toInt64) - ((Int32.ofNat fs1).toInt64)) + (1 : Int64))), .second, .val (.long ((((Int32.ofNat (fs2 + wd2)).toInt64) - ((Int32.ofNat fs2).toInt64)) + (1 : Int64))), .second, .unset, .unset] [(.int (Int32.ofNat lo))])) _
    refine XS.iload X163.here hx rfl (own_hb hby at_172) rfl ?_
    show Steps p.tables e below (T163.setTop (mkF m 174 #[.val (.long p0), .second, .val (.long p1), .second, .val (.long p2), .second, .val (.int p3), .val (.int (Int32.ofNat fs0)), .val (.int (Int32.ofNat (fs0 + wd0))), .val (.int (Int32.ofNat fs1)), .val (.int (Int32.ofNat (fs1 + wd1))), .val (.int (Int32.ofNat fs2)), .val (.int (Int32.ofNat (fs2 + wd2))), .val (.int (Int32.ofNat x1)), .val (.int (Int32.ofNat y1)), .val (.int (Int32.ofNat lo)), .val (.int (Int32.ofNat hi)), .val (.ref b139), .val (.long (own_cs (own_set (own_set (own_set (fun _ => (0 : Int32)) 0 (Int32.ofNat (fs0 + wd0))) (0 + 1) (Int32.ofNat (fs1 + wd1))) ((0 + 1) + 1) (Int32.ofNat (fs2 + wd2))) (own_set (own_set (own_set (fun _ => (0 : Int32)) 0 (Int32.ofNat fs0)) (0 + 1) (Int32.ofNat fs1)) ((0 + 1) + 1) (Int32.ofNat fs2)) lo (hi - lo))), .second, .val (.long ((((Int32.ofNat (fs0 + wd0)).toInt64) - ((Int32.ofNat fs0).toInt64)) + (1 : Int64))), .second, .val (.long ((((Int32.ofNat (fs1 + wd1)).toInt64) - ((Int32.ofNat fs1).toInt64)) + (1 : Int64))), .second, .val (.long ((((Int32.ofNat (fs2 + wd2)).toInt64) - ((Int32.ofNat fs2).toInt64)) + (1 : Int64))), .second, .unset, .unset] [(.int (Int32.ofNat hi)), (.int (Int32.ofNat lo))])) _
    refine XS.iconst X163.here hx rfl (own_hb hby at_174) ?_
    show Steps p.tables e below (T163.setTop (mkF m 175 #[.val (.long p0), .second, .val (.long p1), .second, .val (.long p2), .second, .val (.int p3), .val (.int (Int32.ofNat fs0)), .val (.int (Int32.ofNat (fs0 + wd0))), .val (.int (Int32.ofNat fs1)), .val (.int (Int32.ofNat (fs1 + wd1))), .val (.int (Int32.ofNat fs2)), .val (.int (Int32.ofNat (fs2 + wd2))), .val (.int (Int32.ofNat x1)), .val (.int (Int32.ofNat y1)), .val (.int (Int32.ofNat lo)), .val (.int (Int32.ofNat hi)), .val (.ref b139), .val (.long (own_cs (own_set (own_set (own_set (fun _ => (0 : Int32)) 0 (Int32.ofNat (fs0 + wd0))) (0 + 1) (Int32.ofNat (fs1 + wd1))) ((0 + 1) + 1) (Int32.ofNat (fs2 + wd2))) (own_set (own_set (own_set (fun _ => (0 : Int32)) 0 (Int32.ofNat fs0)) (0 + 1) (Int32.ofNat fs1)) ((0 + 1) + 1) (Int32.ofNat fs2)) lo (hi - lo))), .second, .val (.long ((((Int32.ofNat (fs0 + wd0)).toInt64) - ((Int32.ofNat fs0).toInt64)) + (1 : Int64))), .second, .val (.long ((((Int32.ofNat (fs1 + wd1)).toInt64) - ((Int32.ofNat fs1).toInt64)) + (1 : Int64))), .second, .val (.long ((((Int32.ofNat (fs2 + wd2)).toInt64) - ((Int32.ofNat fs2).toInt64)) + (1 : Int64))), .second, .unset, .unset] [(.int (0 : Int32)), (.int (Int32.ofNat hi)), (.int (Int32.ofNat lo))])) _
    refine XS.lload X163.here hx rfl (own_hb hby at_175) rfl ?_
    exact kt
  obtain ⟨_, _, ⟨T164, L164, k164, n164⟩, -, X164, ⟨Lc164, hQ164, l164, y164, z164⟩, st164⟩ := Jvm.LawKit.callS X163 hx (y := (⟨"com/example/sagasu/sagasu/RowRunsCellsPinLaw", "part", "(IIIJ)J"⟩ : MethodName)) hown (mvT hZ (hw _ (List.mem_of_getElem? (i := 43) rfl))) (mvT hZ (hw _ (List.mem_of_getElem? (i := 44) rfl))) (mvT hZ (hw _ (List.mem_of_getElem? (i := 2) rfl))) (mvT hZ (hw _ (List.mem_of_getElem? (i := 45) rfl))) (by decide) (backOf (W := 0) (rm9 l Z a0 hw [] lo hi 0 ((((Int32.ofNat (fs0 + wd0)).toInt64) - ((Int32.ofNat fs0).toInt64)) + (1 : Int64)) T160.heap n0 z162 (by omega) (by omega) (by decide)) hZ (hw _ (List.mem_of_getElem? (i := 45) rfl)) (hw _ (List.mem_of_getElem? (i := 2) rfl)) (by decide) (by decide)) (g := (mkF m 177 #[.val (.long p0), .second, .val (.long p1), .second, .val (.long p2), .second, .val (.int p3), .val (.int (Int32.ofNat fs0)), .val (.int (Int32.ofNat (fs0 + wd0))), .val (.int (Int32.ofNat fs1)), .val (.int (Int32.ofNat (fs1 + wd1))), .val (.int (Int32.ofNat fs2)), .val (.int (Int32.ofNat (fs2 + wd2))), .val (.int (Int32.ofNat x1)), .val (.int (Int32.ofNat y1)), .val (.int (Int32.ofNat lo)), .val (.int (Int32.ofNat hi)), .val (.ref b139), .val (.long (own_cs (own_set (own_set (own_set (fun _ => (0 : Int32)) 0 (Int32.ofNat (fs0 + wd0))) (0 + 1) (Int32.ofNat (fs1 + wd1))) ((0 + 1) + 1) (Int32.ofNat (fs2 + wd2))) (own_set (own_set (own_set (fun _ => (0 : Int32)) 0 (Int32.ofNat fs0)) (0 + 1) (Int32.ofNat fs1)) ((0 + 1) + 1) (Int32.ofNat fs2)) lo (hi - lo))), .second, .val (.long ((((Int32.ofNat (fs0 + wd0)).toInt64) - ((Int32.ofNat fs0).toInt64)) + (1 : Int64))), .second, .val (.long ((((Int32.ofNat (fs1 + wd1)).toInt64) - ((Int32.ofNat fs1).toInt64)) + (1 : Int64))), .second, .val (.long ((((Int32.ofNat (fs2 + wd2)).toInt64) - ((Int32.ofNat fs2).toInt64)) + (1 : Int64))), .second, .unset, .unset] [(.long ((((Int32.ofNat (fs0 + wd0)).toInt64) - ((Int32.ofNat fs0).toInt64)) + (1 : Int64))), (.int (0 : Int32)), (.int (Int32.ofNat hi)), (.int (Int32.ofNat lo))])) rfl (by rw [hml]; rfl) (argsL := [(.int (Int32.ofNat lo)), (.int (Int32.ofNat hi)), (.int (0 : Int32)), (.long ((((Int32.ofNat (fs0 + wd0)).toInt64) - ((Int32.ofNat fs0).toInt64)) + (1 : Int64)))]) (rest := []) (lenOf pd_5 rfl) rfl (by show 2 * 0 + _ ≤ _; exact Nat.le_of_eq rfl) (own_hb hby at_177) (fun _ _ => ⟨rfl, hh163, (by decide : 4 + 0 ≤ _), (by decide : 196 + 0 ≤ _)⟩)
  dsimp only [Pt.U, Pt.locs, Pt.cells, Pt.slots] at X164 l164 y164 z164 st164 hQ164
  subst l164 y164 z164
  obtain ⟨rfl, N164q, hh164⟩ := hQ164
  have N164 := Fr.app N163 N164q
  refine own_Go.of (S' := (T164.setTop (mkF m 180 #[.val (.long p0), .second, .val (.long p1), .second, .val (.long p2), .second, .val (.int p3), .val (.int (Int32.ofNat fs0)), .val (.int (Int32.ofNat (fs0 + wd0))), .val (.int (Int32.ofNat fs1)), .val (.int (Int32.ofNat (fs1 + wd1))), .val (.int (Int32.ofNat fs2)), .val (.int (Int32.ofNat (fs2 + wd2))), .val (.int (Int32.ofNat x1)), .val (.int (Int32.ofNat y1)), .val (.int (Int32.ofNat lo)), .val (.int (Int32.ofNat hi)), .val (.ref b139), .val (.long (own_cs (own_set (own_set (own_set (fun _ => (0 : Int32)) 0 (Int32.ofNat (fs0 + wd0))) (0 + 1) (Int32.ofNat (fs1 + wd1))) ((0 + 1) + 1) (Int32.ofNat (fs2 + wd2))) (own_set (own_set (own_set (fun _ => (0 : Int32)) 0 (Int32.ofNat fs0)) (0 + 1) (Int32.ofNat fs1)) ((0 + 1) + 1) (Int32.ofNat fs2)) lo (hi - lo))), .second, .val (.long ((((Int32.ofNat (fs0 + wd0)).toInt64) - ((Int32.ofNat fs0).toInt64)) + (1 : Int64))), .second, .val (.long ((((Int32.ofNat (fs1 + wd1)).toInt64) - ((Int32.ofNat fs1).toInt64)) + (1 : Int64))), .second, .val (.long ((((Int32.ofNat (fs2 + wd2)).toInt64) - ((Int32.ofNat fs2).toInt64)) + (1 : Int64))), .second, .unset, .unset] [(.long (own_part lo hi 0 ((((Int32.ofNat (fs0 + wd0)).toInt64) - ((Int32.ofNat fs0).toInt64)) + (1 : Int64))))]))) (fun t kt => st164 t kt) ?_
  refine own_Go.of (S' := (T164.setTop (mkF m 187 #[.val (.long p0), .second, .val (.long p1), .second, .val (.long p2), .second, .val (.int p3), .val (.int (Int32.ofNat fs0)), .val (.int (Int32.ofNat (fs0 + wd0))), .val (.int (Int32.ofNat fs1)), .val (.int (Int32.ofNat (fs1 + wd1))), .val (.int (Int32.ofNat fs2)), .val (.int (Int32.ofNat (fs2 + wd2))), .val (.int (Int32.ofNat x1)), .val (.int (Int32.ofNat y1)), .val (.int (Int32.ofNat lo)), .val (.int (Int32.ofNat hi)), .val (.ref b139), .val (.long (own_cs (own_set (own_set (own_set (fun _ => (0 : Int32)) 0 (Int32.ofNat (fs0 + wd0))) (0 + 1) (Int32.ofNat (fs1 + wd1))) ((0 + 1) + 1) (Int32.ofNat (fs2 + wd2))) (own_set (own_set (own_set (fun _ => (0 : Int32)) 0 (Int32.ofNat fs0)) (0 + 1) (Int32.ofNat fs1)) ((0 + 1) + 1) (Int32.ofNat fs2)) lo (hi - lo))), .second, .val (.long ((((Int32.ofNat (fs0 + wd0)).toInt64) - ((Int32.ofNat fs0).toInt64)) + (1 : Int64))), .second, .val (.long ((((Int32.ofNat (fs1 + wd1)).toInt64) - ((Int32.ofNat fs1).toInt64)) + (1 : Int64))), .second, .val (.long ((((Int32.ofNat (fs2 + wd2)).toInt64) - ((Int32.ofNat fs2).toInt64)) + (1 : Int64))), .second, .unset, .unset] [(.long ((((Int32.ofNat (fs1 + wd1)).toInt64) - ((Int32.ofNat fs1).toInt64)) + (1 : Int64))), (.int (1 : Int32)), (.int (Int32.ofNat hi)), (.int (Int32.ofNat lo)), (.long (own_part lo hi 0 ((((Int32.ofNat (fs0 + wd0)).toInt64) - ((Int32.ofNat fs0).toInt64)) + (1 : Int64))))]))) (fun t kt => ?_) ?_
  · show Steps p.tables e below (T164.setTop (mkF m 180 #[.val (.long p0), .second, .val (.long p1), .second, .val (.long p2), .second, .val (.int p3), .val (.int (Int32.ofNat fs0)), .val (.int (Int32.ofNat (fs0 + wd0))), .val (.int (Int32.ofNat fs1)), .val (.int (Int32.ofNat (fs1 + wd1))), .val (.int (Int32.ofNat fs2)), .val (.int (Int32.ofNat (fs2 + wd2))), .val (.int (Int32.ofNat x1)), .val (.int (Int32.ofNat y1)), .val (.int (Int32.ofNat lo)), .val (.int (Int32.ofNat hi)), .val (.ref b139), .val (.long (own_cs (own_set (own_set (own_set (fun _ => (0 : Int32)) 0 (Int32.ofNat (fs0 + wd0))) (0 + 1) (Int32.ofNat (fs1 + wd1))) ((0 + 1) + 1) (Int32.ofNat (fs2 + wd2))) (own_set (own_set (own_set (fun _ => (0 : Int32)) 0 (Int32.ofNat fs0)) (0 + 1) (Int32.ofNat fs1)) ((0 + 1) + 1) (Int32.ofNat fs2)) lo (hi - lo))), .second, .val (.long ((((Int32.ofNat (fs0 + wd0)).toInt64) - ((Int32.ofNat fs0).toInt64)) + (1 : Int64))), .second, .val (.long ((((Int32.ofNat (fs1 + wd1)).toInt64) - ((Int32.ofNat fs1).toInt64)) + (1 : Int64))), .second, .val (.long ((((Int32.ofNat (fs2 + wd2)).toInt64) - ((Int32.ofNat fs2).toInt64)) + (1 : Int64))), .second, .unset, .unset] [(.long (own_part lo hi 0 ((((Int32.ofNat (fs0 + wd0)).toInt64) - ((Int32.ofNat fs0).toInt64)) + (1 : Int64))))])) _
    refine XS.iload X164.here hx rfl (own_hb hby at_180) rfl ?_
    show Steps p.tables e below (T164.setTop (mkF m 182 #[.val (.long p0), .second, .val (.long p1), .second, .val (.long p2), .second, .val (.int p3), .val (.int (Int32.ofNat fs0)), .val (.int (Int32.ofNat (fs0 + wd0))), .val (.int (Int32.ofNat fs1)), .val (.int (Int32.ofNat (fs1 + wd1))), .val (.int (Int32.ofNat fs2)), .val (.int (Int32.ofNat (fs2 + wd2))), .val (.int (Int32.ofNat x1)), .val (.int (Int32.ofNat y1)), .val (.int (Int32.ofNat lo)), .val (.int (Int32.ofNat hi)), .val (.ref b139), .val (.long (own_cs (own_set (own_set (own_set (fun _ => (0 : Int32)) 0 (Int32.ofNat (fs0 + wd0))) (0 + 1) (Int32.ofNat (fs1 + wd1))) ((0 + 1) + 1) (Int32.ofNat (fs2 + wd2))) (own_set (own_set (own_set (fun _ => (0 : Int32)) 0 (Int32.ofNat fs0)) (0 + 1) (Int32.ofNat fs1)) ((0 + 1) + 1) (Int32.ofNat fs2)) lo (hi - lo))), .second, .val (.long ((((Int32.ofNat (fs0 + wd0)).toInt64) - ((Int32.ofNat fs0).toInt64)) + (1 : Int64))), .second, .val (.long ((((Int32.ofNat (fs1 + wd1)).toInt64) - ((Int32.ofNat fs1).toInt64)) + (1 : Int64))), .second, .val (.long ((((Int32.ofNat (fs2 + wd2)).toInt64) - ((Int32.ofNat fs2).toInt64)) + (1 : Int64))), .second, .unset, .unset] [(.int (Int32.ofNat lo)), (.long (own_part lo hi 0 ((((Int32.ofNat (fs0 + wd0)).toInt64) - ((Int32.ofNat fs0).toInt64)) + (1 : Int64))))])) _
    refine XS.iload X164.here hx rfl (own_hb hby at_182) rfl ?_
    show Steps p.tables e below (T164.setTop (mkF m 184 #[.val (.long p0), .second, .val (.long p1), .second, .val (.long p2), .second, .val (.int p3), .val (.int (Int32.ofNat fs0)), .val (.int (Int32.ofNat (fs0 + wd0))), .val (.int (Int32.ofNat fs1)), .val (.int (Int32.ofNat (fs1 + wd1))), .val (.int (Int32.ofNat fs2)), .val (.int (Int32.ofNat (fs2 + wd2))), .val (.int (Int32.ofNat x1)), .val (.int (Int32.ofNat y1)), .val (.int (Int32.ofNat lo)), .val (.int (Int32.ofNat hi)), .val (.ref b139), .val (.long (own_cs (own_set (own_set (own_set (fun _ => (0 : Int32)) 0 (Int32.ofNat (fs0 + wd0))) (0 + 1) (Int32.ofNat (fs1 + wd1))) ((0 + 1) + 1) (Int32.ofNat (fs2 + wd2))) (own_set (own_set (own_set (fun _ => (0 : Int32)) 0 (Int32.ofNat fs0)) (0 + 1) (Int32.ofNat fs1)) ((0 + 1) + 1) (Int32.ofNat fs2)) lo (hi - lo))), .second, .val (.long ((((Int32.ofNat (fs0 + wd0)).toInt64) - ((Int32.ofNat fs0).toInt64)) + (1 : Int64))), .second, .val (.long ((((Int32.ofNat (fs1 + wd1)).toInt64) - ((Int32.ofNat fs1).toInt64)) + (1 : Int64))), .second, .val (.long ((((Int32.ofNat (fs2 + wd2)).toInt64) - ((Int32.ofNat fs2).toInt64)) + (1 : Int64))), .second, .unset, .unset] [(.int (Int32.ofNat hi)), (.int (Int32.ofNat lo)), (.long (own_part lo hi 0 ((((Int32.ofNat (fs0 + wd0)).toInt64) - ((Int32.ofNat fs0).toInt64)) + (1 : Int64))))])) _
    refine XS.iconst X164.here hx rfl (own_hb hby at_184) ?_
    show Steps p.tables e below (T164.setTop (mkF m 185 #[.val (.long p0), .second, .val (.long p1), .second, .val (.long p2), .second, .val (.int p3), .val (.int (Int32.ofNat fs0)), .val (.int (Int32.ofNat (fs0 + wd0))), .val (.int (Int32.ofNat fs1)), .val (.int (Int32.ofNat (fs1 + wd1))), .val (.int (Int32.ofNat fs2)), .val (.int (Int32.ofNat (fs2 + wd2))), .val (.int (Int32.ofNat x1)), .val (.int (Int32.ofNat y1)), .val (.int (Int32.ofNat lo)), .val (.int (Int32.ofNat hi)), .val (.ref b139), .val (.long (own_cs (own_set (own_set (own_set (fun _ => (0 : Int32)) 0 (Int32.ofNat (fs0 + wd0))) (0 + 1) (Int32.ofNat (fs1 + wd1))) ((0 + 1) + 1) (Int32.ofNat (fs2 + wd2))) (own_set (own_set (own_set (fun _ => (0 : Int32)) 0 (Int32.ofNat fs0)) (0 + 1) (Int32.ofNat fs1)) ((0 + 1) + 1) (Int32.ofNat fs2)) lo (hi - lo))), .second, .val (.long ((((Int32.ofNat (fs0 + wd0)).toInt64) - ((Int32.ofNat fs0).toInt64)) + (1 : Int64))), .second, .val (.long ((((Int32.ofNat (fs1 + wd1)).toInt64) - ((Int32.ofNat fs1).toInt64)) + (1 : Int64))), .second, .val (.long ((((Int32.ofNat (fs2 + wd2)).toInt64) - ((Int32.ofNat fs2).toInt64)) + (1 : Int64))), .second, .unset, .unset] [(.int (1 : Int32)), (.int (Int32.ofNat hi)), (.int (Int32.ofNat lo)), (.long (own_part lo hi 0 ((((Int32.ofNat (fs0 + wd0)).toInt64) - ((Int32.ofNat fs0).toInt64)) + (1 : Int64))))])) _
    refine XS.lload X164.here hx rfl (own_hb hby at_185) rfl ?_
    exact kt
  obtain ⟨_, _, ⟨T165, L165, k165, n165⟩, -, X165, ⟨Lc165, hQ165, l165, y165, z165⟩, st165⟩ := Jvm.LawKit.callS X164 hx (y := (⟨"com/example/sagasu/sagasu/RowRunsCellsPinLaw", "part", "(IIIJ)J"⟩ : MethodName)) hown (mvT hZ (hw _ (List.mem_of_getElem? (i := 43) rfl))) (mvT hZ (hw _ (List.mem_of_getElem? (i := 44) rfl))) (mvT hZ (hw _ (List.mem_of_getElem? (i := 2) rfl))) (mvT hZ (hw _ (List.mem_of_getElem? (i := 45) rfl))) (by decide) (backOf (W := 2) (rm9 l Z a0 hw [] lo hi 1 ((((Int32.ofNat (fs1 + wd1)).toInt64) - ((Int32.ofNat fs1).toInt64)) + (1 : Int64)) T160.heap n0 z162 (by omega) (by omega) (by decide)) hZ (hw _ (List.mem_of_getElem? (i := 45) rfl)) (hw _ (List.mem_of_getElem? (i := 2) rfl)) (by decide) (by decide)) (g := (mkF m 187 #[.val (.long p0), .second, .val (.long p1), .second, .val (.long p2), .second, .val (.int p3), .val (.int (Int32.ofNat fs0)), .val (.int (Int32.ofNat (fs0 + wd0))), .val (.int (Int32.ofNat fs1)), .val (.int (Int32.ofNat (fs1 + wd1))), .val (.int (Int32.ofNat fs2)), .val (.int (Int32.ofNat (fs2 + wd2))), .val (.int (Int32.ofNat x1)), .val (.int (Int32.ofNat y1)), .val (.int (Int32.ofNat lo)), .val (.int (Int32.ofNat hi)), .val (.ref b139), .val (.long (own_cs (own_set (own_set (own_set (fun _ => (0 : Int32)) 0 (Int32.ofNat (fs0 + wd0))) (0 + 1) (Int32.ofNat (fs1 + wd1))) ((0 + 1) + 1) (Int32.ofNat (fs2 + wd2))) (own_set (own_set (own_set (fun _ => (0 : Int32)) 0 (Int32.ofNat fs0)) (0 + 1) (Int32.ofNat fs1)) ((0 + 1) + 1) (Int32.ofNat fs2)) lo (hi - lo))), .second, .val (.long ((((Int32.ofNat (fs0 + wd0)).toInt64) - ((Int32.ofNat fs0).toInt64)) + (1 : Int64))), .second, .val (.long ((((Int32.ofNat (fs1 + wd1)).toInt64) - ((Int32.ofNat fs1).toInt64)) + (1 : Int64))), .second, .val (.long ((((Int32.ofNat (fs2 + wd2)).toInt64) - ((Int32.ofNat fs2).toInt64)) + (1 : Int64))), .second, .unset, .unset] [(.long ((((Int32.ofNat (fs1 + wd1)).toInt64) - ((Int32.ofNat fs1).toInt64)) + (1 : Int64))), (.int (1 : Int32)), (.int (Int32.ofNat hi)), (.int (Int32.ofNat lo)), (.long (own_part lo hi 0 ((((Int32.ofNat (fs0 + wd0)).toInt64) - ((Int32.ofNat fs0).toInt64)) + (1 : Int64))))])) rfl (by rw [hml]; rfl) (argsL := [(.int (Int32.ofNat lo)), (.int (Int32.ofNat hi)), (.int (1 : Int32)), (.long ((((Int32.ofNat (fs1 + wd1)).toInt64) - ((Int32.ofNat fs1).toInt64)) + (1 : Int64)))]) (rest := [(.long (own_part lo hi 0 ((((Int32.ofNat (fs0 + wd0)).toInt64) - ((Int32.ofNat fs0).toInt64)) + (1 : Int64))))]) (lenOf pd_5 rfl) rfl (by show 2 * 0 + _ ≤ _; exact Nat.le_of_eq rfl) (own_hb hby at_187) (fun _ _ => ⟨rfl, hh164, (by decide : 4 + 0 ≤ _), (by decide : 196 + 0 ≤ _)⟩)
  dsimp only [Pt.U, Pt.locs, Pt.cells, Pt.slots] at X165 l165 y165 z165 st165 hQ165
  subst l165 y165 z165
  obtain ⟨rfl, N165q, hh165⟩ := hQ165
  have N165 := Fr.app N164 N165q
  refine own_Go.of (S' := (T165.setTop (mkF m 190 #[.val (.long p0), .second, .val (.long p1), .second, .val (.long p2), .second, .val (.int p3), .val (.int (Int32.ofNat fs0)), .val (.int (Int32.ofNat (fs0 + wd0))), .val (.int (Int32.ofNat fs1)), .val (.int (Int32.ofNat (fs1 + wd1))), .val (.int (Int32.ofNat fs2)), .val (.int (Int32.ofNat (fs2 + wd2))), .val (.int (Int32.ofNat x1)), .val (.int (Int32.ofNat y1)), .val (.int (Int32.ofNat lo)), .val (.int (Int32.ofNat hi)), .val (.ref b139), .val (.long (own_cs (own_set (own_set (own_set (fun _ => (0 : Int32)) 0 (Int32.ofNat (fs0 + wd0))) (0 + 1) (Int32.ofNat (fs1 + wd1))) ((0 + 1) + 1) (Int32.ofNat (fs2 + wd2))) (own_set (own_set (own_set (fun _ => (0 : Int32)) 0 (Int32.ofNat fs0)) (0 + 1) (Int32.ofNat fs1)) ((0 + 1) + 1) (Int32.ofNat fs2)) lo (hi - lo))), .second, .val (.long ((((Int32.ofNat (fs0 + wd0)).toInt64) - ((Int32.ofNat fs0).toInt64)) + (1 : Int64))), .second, .val (.long ((((Int32.ofNat (fs1 + wd1)).toInt64) - ((Int32.ofNat fs1).toInt64)) + (1 : Int64))), .second, .val (.long ((((Int32.ofNat (fs2 + wd2)).toInt64) - ((Int32.ofNat fs2).toInt64)) + (1 : Int64))), .second, .unset, .unset] [(.long (own_part lo hi 1 ((((Int32.ofNat (fs1 + wd1)).toInt64) - ((Int32.ofNat fs1).toInt64)) + (1 : Int64)))), (.long (own_part lo hi 0 ((((Int32.ofNat (fs0 + wd0)).toInt64) - ((Int32.ofNat fs0).toInt64)) + (1 : Int64))))]))) (fun t kt => st165 t kt) ?_
  refine own_Go.of (S' := (T165.setTop (mkF m 198 #[.val (.long p0), .second, .val (.long p1), .second, .val (.long p2), .second, .val (.int p3), .val (.int (Int32.ofNat fs0)), .val (.int (Int32.ofNat (fs0 + wd0))), .val (.int (Int32.ofNat fs1)), .val (.int (Int32.ofNat (fs1 + wd1))), .val (.int (Int32.ofNat fs2)), .val (.int (Int32.ofNat (fs2 + wd2))), .val (.int (Int32.ofNat x1)), .val (.int (Int32.ofNat y1)), .val (.int (Int32.ofNat lo)), .val (.int (Int32.ofNat hi)), .val (.ref b139), .val (.long (own_cs (own_set (own_set (own_set (fun _ => (0 : Int32)) 0 (Int32.ofNat (fs0 + wd0))) (0 + 1) (Int32.ofNat (fs1 + wd1))) ((0 + 1) + 1) (Int32.ofNat (fs2 + wd2))) (own_set (own_set (own_set (fun _ => (0 : Int32)) 0 (Int32.ofNat fs0)) (0 + 1) (Int32.ofNat fs1)) ((0 + 1) + 1) (Int32.ofNat fs2)) lo (hi - lo))), .second, .val (.long ((((Int32.ofNat (fs0 + wd0)).toInt64) - ((Int32.ofNat fs0).toInt64)) + (1 : Int64))), .second, .val (.long ((((Int32.ofNat (fs1 + wd1)).toInt64) - ((Int32.ofNat fs1).toInt64)) + (1 : Int64))), .second, .val (.long ((((Int32.ofNat (fs2 + wd2)).toInt64) - ((Int32.ofNat fs2).toInt64)) + (1 : Int64))), .second, .unset, .unset] [(.long ((((Int32.ofNat (fs2 + wd2)).toInt64) - ((Int32.ofNat fs2).toInt64)) + (1 : Int64))), (.int (2 : Int32)), (.int (Int32.ofNat hi)), (.int (Int32.ofNat lo)), (.long ((own_part lo hi 0 ((((Int32.ofNat (fs0 + wd0)).toInt64) - ((Int32.ofNat fs0).toInt64)) + (1 : Int64))) + (own_part lo hi 1 ((((Int32.ofNat (fs1 + wd1)).toInt64) - ((Int32.ofNat fs1).toInt64)) + (1 : Int64)))))]))) (fun t kt => ?_) ?_
  · show Steps p.tables e below (T165.setTop (mkF m 190 #[.val (.long p0), .second, .val (.long p1), .second, .val (.long p2), .second, .val (.int p3), .val (.int (Int32.ofNat fs0)), .val (.int (Int32.ofNat (fs0 + wd0))), .val (.int (Int32.ofNat fs1)), .val (.int (Int32.ofNat (fs1 + wd1))), .val (.int (Int32.ofNat fs2)), .val (.int (Int32.ofNat (fs2 + wd2))), .val (.int (Int32.ofNat x1)), .val (.int (Int32.ofNat y1)), .val (.int (Int32.ofNat lo)), .val (.int (Int32.ofNat hi)), .val (.ref b139), .val (.long (own_cs (own_set (own_set (own_set (fun _ => (0 : Int32)) 0 (Int32.ofNat (fs0 + wd0))) (0 + 1) (Int32.ofNat (fs1 + wd1))) ((0 + 1) + 1) (Int32.ofNat (fs2 + wd2))) (own_set (own_set (own_set (fun _ => (0 : Int32)) 0 (Int32.ofNat fs0)) (0 + 1) (Int32.ofNat fs1)) ((0 + 1) + 1) (Int32.ofNat fs2)) lo (hi - lo))), .second, .val (.long ((((Int32.ofNat (fs0 + wd0)).toInt64) - ((Int32.ofNat fs0).toInt64)) + (1 : Int64))), .second, .val (.long ((((Int32.ofNat (fs1 + wd1)).toInt64) - ((Int32.ofNat fs1).toInt64)) + (1 : Int64))), .second, .val (.long ((((Int32.ofNat (fs2 + wd2)).toInt64) - ((Int32.ofNat fs2).toInt64)) + (1 : Int64))), .second, .unset, .unset] [(.long (own_part lo hi 1 ((((Int32.ofNat (fs1 + wd1)).toInt64) - ((Int32.ofNat fs1).toInt64)) + (1 : Int64)))), (.long (own_part lo hi 0 ((((Int32.ofNat (fs0 + wd0)).toInt64) - ((Int32.ofNat fs0).toInt64)) + (1 : Int64))))])) _
    refine XS.ladd X165.here hx rfl (own_hb hby at_190) rfl ?_
    show Steps p.tables e below (T165.setTop (mkF m 191 #[.val (.long p0), .second, .val (.long p1), .second, .val (.long p2), .second, .val (.int p3), .val (.int (Int32.ofNat fs0)), .val (.int (Int32.ofNat (fs0 + wd0))), .val (.int (Int32.ofNat fs1)), .val (.int (Int32.ofNat (fs1 + wd1))), .val (.int (Int32.ofNat fs2)), .val (.int (Int32.ofNat (fs2 + wd2))), .val (.int (Int32.ofNat x1)), .val (.int (Int32.ofNat y1)), .val (.int (Int32.ofNat lo)), .val (.int (Int32.ofNat hi)), .val (.ref b139), .val (.long (own_cs (own_set (own_set (own_set (fun _ => (0 : Int32)) 0 (Int32.ofNat (fs0 + wd0))) (0 + 1) (Int32.ofNat (fs1 + wd1))) ((0 + 1) + 1) (Int32.ofNat (fs2 + wd2))) (own_set (own_set (own_set (fun _ => (0 : Int32)) 0 (Int32.ofNat fs0)) (0 + 1) (Int32.ofNat fs1)) ((0 + 1) + 1) (Int32.ofNat fs2)) lo (hi - lo))), .second, .val (.long ((((Int32.ofNat (fs0 + wd0)).toInt64) - ((Int32.ofNat fs0).toInt64)) + (1 : Int64))), .second, .val (.long ((((Int32.ofNat (fs1 + wd1)).toInt64) - ((Int32.ofNat fs1).toInt64)) + (1 : Int64))), .second, .val (.long ((((Int32.ofNat (fs2 + wd2)).toInt64) - ((Int32.ofNat fs2).toInt64)) + (1 : Int64))), .second, .unset, .unset] [(.long ((own_part lo hi 0 ((((Int32.ofNat (fs0 + wd0)).toInt64) - ((Int32.ofNat fs0).toInt64)) + (1 : Int64))) + (own_part lo hi 1 ((((Int32.ofNat (fs1 + wd1)).toInt64) - ((Int32.ofNat fs1).toInt64)) + (1 : Int64)))))])) _
    refine XS.iload X165.here hx rfl (own_hb hby at_191) rfl ?_
    show Steps p.tables e below (T165.setTop (mkF m 193 #[.val (.long p0), .second, .val (.long p1), .second, .val (.long p2), .second, .val (.int p3), .val (.int (Int32.ofNat fs0)), .val (.int (Int32.ofNat (fs0 + wd0))), .val (.int (Int32.ofNat fs1)), .val (.int (Int32.ofNat (fs1 + wd1))), .val (.int (Int32.ofNat fs2)), .val (.int (Int32.ofNat (fs2 + wd2))), .val (.int (Int32.ofNat x1)), .val (.int (Int32.ofNat y1)), .val (.int (Int32.ofNat lo)), .val (.int (Int32.ofNat hi)), .val (.ref b139), .val (.long (own_cs (own_set (own_set (own_set (fun _ => (0 : Int32)) 0 (Int32.ofNat (fs0 + wd0))) (0 + 1) (Int32.ofNat (fs1 + wd1))) ((0 + 1) + 1) (Int32.ofNat (fs2 + wd2))) (own_set (own_set (own_set (fun _ => (0 : Int32)) 0 (Int32.ofNat fs0)) (0 + 1) (Int32.ofNat fs1)) ((0 + 1) + 1) (Int32.ofNat fs2)) lo (hi - lo))), .second, .val (.long ((((Int32.ofNat (fs0 + wd0)).toInt64) - ((Int32.ofNat fs0).toInt64)) + (1 : Int64))), .second, .val (.long ((((Int32.ofNat (fs1 + wd1)).toInt64) - ((Int32.ofNat fs1).toInt64)) + (1 : Int64))), .second, .val (.long ((((Int32.ofNat (fs2 + wd2)).toInt64) - ((Int32.ofNat fs2).toInt64)) + (1 : Int64))), .second, .unset, .unset] [(.int (Int32.ofNat lo)), (.long ((own_part lo hi 0 ((((Int32.ofNat (fs0 + wd0)).toInt64) - ((Int32.ofNat fs0).toInt64)) + (1 : Int64))) + (own_part lo hi 1 ((((Int32.ofNat (fs1 + wd1)).toInt64) - ((Int32.ofNat fs1).toInt64)) + (1 : Int64)))))])) _
    refine XS.iload X165.here hx rfl (own_hb hby at_193) rfl ?_
    show Steps p.tables e below (T165.setTop (mkF m 195 #[.val (.long p0), .second, .val (.long p1), .second, .val (.long p2), .second, .val (.int p3), .val (.int (Int32.ofNat fs0)), .val (.int (Int32.ofNat (fs0 + wd0))), .val (.int (Int32.ofNat fs1)), .val (.int (Int32.ofNat (fs1 + wd1))), .val (.int (Int32.ofNat fs2)), .val (.int (Int32.ofNat (fs2 + wd2))), .val (.int (Int32.ofNat x1)), .val (.int (Int32.ofNat y1)), .val (.int (Int32.ofNat lo)), .val (.int (Int32.ofNat hi)), .val (.ref b139), .val (.long (own_cs (own_set (own_set (own_set (fun _ => (0 : Int32)) 0 (Int32.ofNat (fs0 + wd0))) (0 + 1) (Int32.ofNat (fs1 + wd1))) ((0 + 1) + 1) (Int32.ofNat (fs2 + wd2))) (own_set (own_set (own_set (fun _ => (0 : Int32)) 0 (Int32.ofNat fs0)) (0 + 1) (Int32.ofNat fs1)) ((0 + 1) + 1) (Int32.ofNat fs2)) lo (hi - lo))), .second, .val (.long ((((Int32.ofNat (fs0 + wd0)).toInt64) - ((Int32.ofNat fs0).toInt64)) + (1 : Int64))), .second, .val (.long ((((Int32.ofNat (fs1 + wd1)).toInt64) - ((Int32.ofNat fs1).toInt64)) + (1 : Int64))), .second, .val (.long ((((Int32.ofNat (fs2 + wd2)).toInt64) - ((Int32.ofNat fs2).toInt64)) + (1 : Int64))), .second, .unset, .unset] [(.int (Int32.ofNat hi)), (.int (Int32.ofNat lo)), (.long ((own_part lo hi 0 ((((Int32.ofNat (fs0 + wd0)).toInt64) - ((Int32.ofNat fs0).toInt64)) + (1 : Int64))) + (own_part lo hi 1 ((((Int32.ofNat (fs1 + wd1)).toInt64) - ((Int32.ofNat fs1).toInt64)) + (1 : Int64)))))])) _
    refine XS.iconst X165.here hx rfl (own_hb hby at_195) ?_
    show Steps p.tables e below (T165.setTop (mkF m 196 #[.val (.long p0), .second, .val (.long p1), .second, .val (.long p2), .second, .val (.int p3), .val (.int (Int32.ofNat fs0)), .val (.int (Int32.ofNat (fs0 + wd0))), .val (.int (Int32.ofNat fs1)), .val (.int (Int32.ofNat (fs1 + wd1))), .val (.int (Int32.ofNat fs2)), .val (.int (Int32.ofNat (fs2 + wd2))), .val (.int (Int32.ofNat x1)), .val (.int (Int32.ofNat y1)), .val (.int (Int32.ofNat lo)), .val (.int (Int32.ofNat hi)), .val (.ref b139), .val (.long (own_cs (own_set (own_set (own_set (fun _ => (0 : Int32)) 0 (Int32.ofNat (fs0 + wd0))) (0 + 1) (Int32.ofNat (fs1 + wd1))) ((0 + 1) + 1) (Int32.ofNat (fs2 + wd2))) (own_set (own_set (own_set (fun _ => (0 : Int32)) 0 (Int32.ofNat fs0)) (0 + 1) (Int32.ofNat fs1)) ((0 + 1) + 1) (Int32.ofNat fs2)) lo (hi - lo))), .second, .val (.long ((((Int32.ofNat (fs0 + wd0)).toInt64) - ((Int32.ofNat fs0).toInt64)) + (1 : Int64))), .second, .val (.long ((((Int32.ofNat (fs1 + wd1)).toInt64) - ((Int32.ofNat fs1).toInt64)) + (1 : Int64))), .second, .val (.long ((((Int32.ofNat (fs2 + wd2)).toInt64) - ((Int32.ofNat fs2).toInt64)) + (1 : Int64))), .second, .unset, .unset] [(.int (2 : Int32)), (.int (Int32.ofNat hi)), (.int (Int32.ofNat lo)), (.long ((own_part lo hi 0 ((((Int32.ofNat (fs0 + wd0)).toInt64) - ((Int32.ofNat fs0).toInt64)) + (1 : Int64))) + (own_part lo hi 1 ((((Int32.ofNat (fs1 + wd1)).toInt64) - ((Int32.ofNat fs1).toInt64)) + (1 : Int64)))))])) _
    refine XS.lload X165.here hx rfl (own_hb hby at_196) rfl ?_
    exact kt
  obtain ⟨_, _, ⟨T166, L166, k166, n166⟩, -, X166, ⟨Lc166, hQ166, l166, y166, z166⟩, st166⟩ := Jvm.LawKit.callS X165 hx (y := (⟨"com/example/sagasu/sagasu/RowRunsCellsPinLaw", "part", "(IIIJ)J"⟩ : MethodName)) hown (mvT hZ (hw _ (List.mem_of_getElem? (i := 43) rfl))) (mvT hZ (hw _ (List.mem_of_getElem? (i := 44) rfl))) (mvT hZ (hw _ (List.mem_of_getElem? (i := 2) rfl))) (mvT hZ (hw _ (List.mem_of_getElem? (i := 45) rfl))) (by decide) (backOf (W := 2) (rm9 l Z a0 hw [] lo hi 2 ((((Int32.ofNat (fs2 + wd2)).toInt64) - ((Int32.ofNat fs2).toInt64)) + (1 : Int64)) T160.heap n0 z162 (by omega) (by omega) (by decide)) hZ (hw _ (List.mem_of_getElem? (i := 45) rfl)) (hw _ (List.mem_of_getElem? (i := 2) rfl)) (by decide) (by decide)) (g := (mkF m 198 #[.val (.long p0), .second, .val (.long p1), .second, .val (.long p2), .second, .val (.int p3), .val (.int (Int32.ofNat fs0)), .val (.int (Int32.ofNat (fs0 + wd0))), .val (.int (Int32.ofNat fs1)), .val (.int (Int32.ofNat (fs1 + wd1))), .val (.int (Int32.ofNat fs2)), .val (.int (Int32.ofNat (fs2 + wd2))), .val (.int (Int32.ofNat x1)), .val (.int (Int32.ofNat y1)), .val (.int (Int32.ofNat lo)), .val (.int (Int32.ofNat hi)), .val (.ref b139), .val (.long (own_cs (own_set (own_set (own_set (fun _ => (0 : Int32)) 0 (Int32.ofNat (fs0 + wd0))) (0 + 1) (Int32.ofNat (fs1 + wd1))) ((0 + 1) + 1) (Int32.ofNat (fs2 + wd2))) (own_set (own_set (own_set (fun _ => (0 : Int32)) 0 (Int32.ofNat fs0)) (0 + 1) (Int32.ofNat fs1)) ((0 + 1) + 1) (Int32.ofNat fs2)) lo (hi - lo))), .second, .val (.long ((((Int32.ofNat (fs0 + wd0)).toInt64) - ((Int32.ofNat fs0).toInt64)) + (1 : Int64))), .second, .val (.long ((((Int32.ofNat (fs1 + wd1)).toInt64) - ((Int32.ofNat fs1).toInt64)) + (1 : Int64))), .second, .val (.long ((((Int32.ofNat (fs2 + wd2)).toInt64) - ((Int32.ofNat fs2).toInt64)) + (1 : Int64))), .second, .unset, .unset] [(.long ((((Int32.ofNat (fs2 + wd2)).toInt64) - ((Int32.ofNat fs2).toInt64)) + (1 : Int64))), (.int (2 : Int32)), (.int (Int32.ofNat hi)), (.int (Int32.ofNat lo)), (.long ((own_part lo hi 0 ((((Int32.ofNat (fs0 + wd0)).toInt64) - ((Int32.ofNat fs0).toInt64)) + (1 : Int64))) + (own_part lo hi 1 ((((Int32.ofNat (fs1 + wd1)).toInt64) - ((Int32.ofNat fs1).toInt64)) + (1 : Int64)))))])) rfl (by rw [hml]; rfl) (argsL := [(.int (Int32.ofNat lo)), (.int (Int32.ofNat hi)), (.int (2 : Int32)), (.long ((((Int32.ofNat (fs2 + wd2)).toInt64) - ((Int32.ofNat fs2).toInt64)) + (1 : Int64)))]) (rest := [(.long ((own_part lo hi 0 ((((Int32.ofNat (fs0 + wd0)).toInt64) - ((Int32.ofNat fs0).toInt64)) + (1 : Int64))) + (own_part lo hi 1 ((((Int32.ofNat (fs1 + wd1)).toInt64) - ((Int32.ofNat fs1).toInt64)) + (1 : Int64)))))]) (lenOf pd_5 rfl) rfl (by show 2 * 0 + _ ≤ _; exact Nat.le_of_eq rfl) (own_hb hby at_198) (fun _ _ => ⟨rfl, hh165, (by decide : 4 + 0 ≤ _), (by decide : 196 + 0 ≤ _)⟩)
  dsimp only [Pt.U, Pt.locs, Pt.cells, Pt.slots] at X166 l166 y166 z166 st166 hQ166
  subst l166 y166 z166
  obtain ⟨rfl, N166q, hh166⟩ := hQ166
  have N166 := Fr.app N165 N166q
  refine own_Go.of (S' := (T166.setTop (mkF m 201 #[.val (.long p0), .second, .val (.long p1), .second, .val (.long p2), .second, .val (.int p3), .val (.int (Int32.ofNat fs0)), .val (.int (Int32.ofNat (fs0 + wd0))), .val (.int (Int32.ofNat fs1)), .val (.int (Int32.ofNat (fs1 + wd1))), .val (.int (Int32.ofNat fs2)), .val (.int (Int32.ofNat (fs2 + wd2))), .val (.int (Int32.ofNat x1)), .val (.int (Int32.ofNat y1)), .val (.int (Int32.ofNat lo)), .val (.int (Int32.ofNat hi)), .val (.ref b139), .val (.long (own_cs (own_set (own_set (own_set (fun _ => (0 : Int32)) 0 (Int32.ofNat (fs0 + wd0))) (0 + 1) (Int32.ofNat (fs1 + wd1))) ((0 + 1) + 1) (Int32.ofNat (fs2 + wd2))) (own_set (own_set (own_set (fun _ => (0 : Int32)) 0 (Int32.ofNat fs0)) (0 + 1) (Int32.ofNat fs1)) ((0 + 1) + 1) (Int32.ofNat fs2)) lo (hi - lo))), .second, .val (.long ((((Int32.ofNat (fs0 + wd0)).toInt64) - ((Int32.ofNat fs0).toInt64)) + (1 : Int64))), .second, .val (.long ((((Int32.ofNat (fs1 + wd1)).toInt64) - ((Int32.ofNat fs1).toInt64)) + (1 : Int64))), .second, .val (.long ((((Int32.ofNat (fs2 + wd2)).toInt64) - ((Int32.ofNat fs2).toInt64)) + (1 : Int64))), .second, .unset, .unset] [(.long (own_part lo hi 2 ((((Int32.ofNat (fs2 + wd2)).toInt64) - ((Int32.ofNat fs2).toInt64)) + (1 : Int64)))), (.long ((own_part lo hi 0 ((((Int32.ofNat (fs0 + wd0)).toInt64) - ((Int32.ofNat fs0).toInt64)) + (1 : Int64))) + (own_part lo hi 1 ((((Int32.ofNat (fs1 + wd1)).toInt64) - ((Int32.ofNat fs1).toInt64)) + (1 : Int64)))))]))) (fun t kt => st166 t kt) ?_
  refine own_Go.of (S' := (T166.setTop (mkF m 214 #[.val (.long p0), .second, .val (.long p1), .second, .val (.long p2), .second, .val (.int p3), .val (.int (Int32.ofNat fs0)), .val (.int (Int32.ofNat (fs0 + wd0))), .val (.int (Int32.ofNat fs1)), .val (.int (Int32.ofNat (fs1 + wd1))), .val (.int (Int32.ofNat fs2)), .val (.int (Int32.ofNat (fs2 + wd2))), .val (.int (Int32.ofNat x1)), .val (.int (Int32.ofNat y1)), .val (.int (Int32.ofNat lo)), .val (.int (Int32.ofNat hi)), .val (.ref b139), .val (.long (own_cs (own_set (own_set (own_set (fun _ => (0 : Int32)) 0 (Int32.ofNat (fs0 + wd0))) (0 + 1) (Int32.ofNat (fs1 + wd1))) ((0 + 1) + 1) (Int32.ofNat (fs2 + wd2))) (own_set (own_set (own_set (fun _ => (0 : Int32)) 0 (Int32.ofNat fs0)) (0 + 1) (Int32.ofNat fs1)) ((0 + 1) + 1) (Int32.ofNat fs2)) lo (hi - lo))), .second, .val (.long ((((Int32.ofNat (fs0 + wd0)).toInt64) - ((Int32.ofNat fs0).toInt64)) + (1 : Int64))), .second, .val (.long ((((Int32.ofNat (fs1 + wd1)).toInt64) - ((Int32.ofNat fs1).toInt64)) + (1 : Int64))), .second, .val (.long ((((Int32.ofNat (fs2 + wd2)).toInt64) - ((Int32.ofNat fs2).toInt64)) + (1 : Int64))), .second, .val (.long (((own_part lo hi 0 ((((Int32.ofNat (fs0 + wd0)).toInt64) - ((Int32.ofNat fs0).toInt64)) + (1 : Int64))) + (own_part lo hi 1 ((((Int32.ofNat (fs1 + wd1)).toInt64) - ((Int32.ofNat fs1).toInt64)) + (1 : Int64)))) + (own_part lo hi 2 ((((Int32.ofNat (fs2 + wd2)).toInt64) - ((Int32.ofNat fs2).toInt64)) + (1 : Int64))))), .second] [(.ref b139)]))) (fun t kt => ?_) ?_
  · show Steps p.tables e below (T166.setTop (mkF m 201 #[.val (.long p0), .second, .val (.long p1), .second, .val (.long p2), .second, .val (.int p3), .val (.int (Int32.ofNat fs0)), .val (.int (Int32.ofNat (fs0 + wd0))), .val (.int (Int32.ofNat fs1)), .val (.int (Int32.ofNat (fs1 + wd1))), .val (.int (Int32.ofNat fs2)), .val (.int (Int32.ofNat (fs2 + wd2))), .val (.int (Int32.ofNat x1)), .val (.int (Int32.ofNat y1)), .val (.int (Int32.ofNat lo)), .val (.int (Int32.ofNat hi)), .val (.ref b139), .val (.long (own_cs (own_set (own_set (own_set (fun _ => (0 : Int32)) 0 (Int32.ofNat (fs0 + wd0))) (0 + 1) (Int32.ofNat (fs1 + wd1))) ((0 + 1) + 1) (Int32.ofNat (fs2 + wd2))) (own_set (own_set (own_set (fun _ => (0 : Int32)) 0 (Int32.ofNat fs0)) (0 + 1) (Int32.ofNat fs1)) ((0 + 1) + 1) (Int32.ofNat fs2)) lo (hi - lo))), .second, .val (.long ((((Int32.ofNat (fs0 + wd0)).toInt64) - ((Int32.ofNat fs0).toInt64)) + (1 : Int64))), .second, .val (.long ((((Int32.ofNat (fs1 + wd1)).toInt64) - ((Int32.ofNat fs1).toInt64)) + (1 : Int64))), .second, .val (.long ((((Int32.ofNat (fs2 + wd2)).toInt64) - ((Int32.ofNat fs2).toInt64)) + (1 : Int64))), .second, .unset, .unset] [(.long (own_part lo hi 2 ((((Int32.ofNat (fs2 + wd2)).toInt64) - ((Int32.ofNat fs2).toInt64)) + (1 : Int64)))), (.long ((own_part lo hi 0 ((((Int32.ofNat (fs0 + wd0)).toInt64) - ((Int32.ofNat fs0).toInt64)) + (1 : Int64))) + (own_part lo hi 1 ((((Int32.ofNat (fs1 + wd1)).toInt64) - ((Int32.ofNat fs1).toInt64)) + (1 : Int64)))))])) _
    refine XS.ladd X166.here hx rfl (own_hb hby at_201) rfl ?_
    show Steps p.tables e below (T166.setTop (mkF m 202 #[.val (.long p0), .second, .val (.long p1), .second, .val (.long p2), .second, .val (.int p3), .val (.int (Int32.ofNat fs0)), .val (.int (Int32.ofNat (fs0 + wd0))), .val (.int (Int32.ofNat fs1)), .val (.int (Int32.ofNat (fs1 + wd1))), .val (.int (Int32.ofNat fs2)), .val (.int (Int32.ofNat (fs2 + wd2))), .val (.int (Int32.ofNat x1)), .val (.int (Int32.ofNat y1)), .val (.int (Int32.ofNat lo)), .val (.int (Int32.ofNat hi)), .val (.ref b139), .val (.long (own_cs (own_set (own_set (own_set (fun _ => (0 : Int32)) 0 (Int32.ofNat (fs0 + wd0))) (0 + 1) (Int32.ofNat (fs1 + wd1))) ((0 + 1) + 1) (Int32.ofNat (fs2 + wd2))) (own_set (own_set (own_set (fun _ => (0 : Int32)) 0 (Int32.ofNat fs0)) (0 + 1) (Int32.ofNat fs1)) ((0 + 1) + 1) (Int32.ofNat fs2)) lo (hi - lo))), .second, .val (.long ((((Int32.ofNat (fs0 + wd0)).toInt64) - ((Int32.ofNat fs0).toInt64)) + (1 : Int64))), .second, .val (.long ((((Int32.ofNat (fs1 + wd1)).toInt64) - ((Int32.ofNat fs1).toInt64)) + (1 : Int64))), .second, .val (.long ((((Int32.ofNat (fs2 + wd2)).toInt64) - ((Int32.ofNat fs2).toInt64)) + (1 : Int64))), .second, .unset, .unset] [(.long (((own_part lo hi 0 ((((Int32.ofNat (fs0 + wd0)).toInt64) - ((Int32.ofNat fs0).toInt64)) + (1 : Int64))) + (own_part lo hi 1 ((((Int32.ofNat (fs1 + wd1)).toInt64) - ((Int32.ofNat fs1).toInt64)) + (1 : Int64)))) + (own_part lo hi 2 ((((Int32.ofNat (fs2 + wd2)).toInt64) - ((Int32.ofNat fs2).toInt64)) + (1 : Int64)))))])) _
    refine XS.lstore X166.here hx rfl (own_hb hby at_202) rfl (l' := #[.val (.long p0), .second, .val (.long p1), .second, .val (.long p2), .second, .val (.int p3), .val (.int (Int32.ofNat fs0)), .val (.int (Int32.ofNat (fs0 + wd0))), .val (.int (Int32.ofNat fs1)), .val (.int (Int32.ofNat (fs1 + wd1))), .val (.int (Int32.ofNat fs2)), .val (.int (Int32.ofNat (fs2 + wd2))), .val (.int (Int32.ofNat x1)), .val (.int (Int32.ofNat y1)), .val (.int (Int32.ofNat lo)), .val (.int (Int32.ofNat hi)), .val (.ref b139), .val (.long (own_cs (own_set (own_set (own_set (fun _ => (0 : Int32)) 0 (Int32.ofNat (fs0 + wd0))) (0 + 1) (Int32.ofNat (fs1 + wd1))) ((0 + 1) + 1) (Int32.ofNat (fs2 + wd2))) (own_set (own_set (own_set (fun _ => (0 : Int32)) 0 (Int32.ofNat fs0)) (0 + 1) (Int32.ofNat fs1)) ((0 + 1) + 1) (Int32.ofNat fs2)) lo (hi - lo))), .second, .val (.long ((((Int32.ofNat (fs0 + wd0)).toInt64) - ((Int32.ofNat fs0).toInt64)) + (1 : Int64))), .second, .val (.long ((((Int32.ofNat (fs1 + wd1)).toInt64) - ((Int32.ofNat fs1).toInt64)) + (1 : Int64))), .second, .val (.long ((((Int32.ofNat (fs2 + wd2)).toInt64) - ((Int32.ofNat fs2).toInt64)) + (1 : Int64))), .second, .val (.long (((own_part lo hi 0 ((((Int32.ofNat (fs0 + wd0)).toInt64) - ((Int32.ofNat fs0).toInt64)) + (1 : Int64))) + (own_part lo hi 1 ((((Int32.ofNat (fs1 + wd1)).toInt64) - ((Int32.ofNat fs1).toInt64)) + (1 : Int64)))) + (own_part lo hi 2 ((((Int32.ofNat (fs2 + wd2)).toInt64) - ((Int32.ofNat fs2).toInt64)) + (1 : Int64))))), .second]) rfl ?_
    show Steps p.tables e below (T166.setTop (mkF m 204 #[.val (.long p0), .second, .val (.long p1), .second, .val (.long p2), .second, .val (.int p3), .val (.int (Int32.ofNat fs0)), .val (.int (Int32.ofNat (fs0 + wd0))), .val (.int (Int32.ofNat fs1)), .val (.int (Int32.ofNat (fs1 + wd1))), .val (.int (Int32.ofNat fs2)), .val (.int (Int32.ofNat (fs2 + wd2))), .val (.int (Int32.ofNat x1)), .val (.int (Int32.ofNat y1)), .val (.int (Int32.ofNat lo)), .val (.int (Int32.ofNat hi)), .val (.ref b139), .val (.long (own_cs (own_set (own_set (own_set (fun _ => (0 : Int32)) 0 (Int32.ofNat (fs0 + wd0))) (0 + 1) (Int32.ofNat (fs1 + wd1))) ((0 + 1) + 1) (Int32.ofNat (fs2 + wd2))) (own_set (own_set (own_set (fun _ => (0 : Int32)) 0 (Int32.ofNat fs0)) (0 + 1) (Int32.ofNat fs1)) ((0 + 1) + 1) (Int32.ofNat fs2)) lo (hi - lo))), .second, .val (.long ((((Int32.ofNat (fs0 + wd0)).toInt64) - ((Int32.ofNat fs0).toInt64)) + (1 : Int64))), .second, .val (.long ((((Int32.ofNat (fs1 + wd1)).toInt64) - ((Int32.ofNat fs1).toInt64)) + (1 : Int64))), .second, .val (.long ((((Int32.ofNat (fs2 + wd2)).toInt64) - ((Int32.ofNat fs2).toInt64)) + (1 : Int64))), .second, .val (.long (((own_part lo hi 0 ((((Int32.ofNat (fs0 + wd0)).toInt64) - ((Int32.ofNat fs0).toInt64)) + (1 : Int64))) + (own_part lo hi 1 ((((Int32.ofNat (fs1 + wd1)).toInt64) - ((Int32.ofNat fs1).toInt64)) + (1 : Int64)))) + (own_part lo hi 2 ((((Int32.ofNat (fs2 + wd2)).toInt64) - ((Int32.ofNat fs2).toInt64)) + (1 : Int64))))), .second] [])) _
    refine XS.lload X166.here hx rfl (own_hb hby at_204) rfl ?_
    show Steps p.tables e below (T166.setTop (mkF m 206 #[.val (.long p0), .second, .val (.long p1), .second, .val (.long p2), .second, .val (.int p3), .val (.int (Int32.ofNat fs0)), .val (.int (Int32.ofNat (fs0 + wd0))), .val (.int (Int32.ofNat fs1)), .val (.int (Int32.ofNat (fs1 + wd1))), .val (.int (Int32.ofNat fs2)), .val (.int (Int32.ofNat (fs2 + wd2))), .val (.int (Int32.ofNat x1)), .val (.int (Int32.ofNat y1)), .val (.int (Int32.ofNat lo)), .val (.int (Int32.ofNat hi)), .val (.ref b139), .val (.long (own_cs (own_set (own_set (own_set (fun _ => (0 : Int32)) 0 (Int32.ofNat (fs0 + wd0))) (0 + 1) (Int32.ofNat (fs1 + wd1))) ((0 + 1) + 1) (Int32.ofNat (fs2 + wd2))) (own_set (own_set (own_set (fun _ => (0 : Int32)) 0 (Int32.ofNat fs0)) (0 + 1) (Int32.ofNat fs1)) ((0 + 1) + 1) (Int32.ofNat fs2)) lo (hi - lo))), .second, .val (.long ((((Int32.ofNat (fs0 + wd0)).toInt64) - ((Int32.ofNat fs0).toInt64)) + (1 : Int64))), .second, .val (.long ((((Int32.ofNat (fs1 + wd1)).toInt64) - ((Int32.ofNat fs1).toInt64)) + (1 : Int64))), .second, .val (.long ((((Int32.ofNat (fs2 + wd2)).toInt64) - ((Int32.ofNat fs2).toInt64)) + (1 : Int64))), .second, .val (.long (((own_part lo hi 0 ((((Int32.ofNat (fs0 + wd0)).toInt64) - ((Int32.ofNat fs0).toInt64)) + (1 : Int64))) + (own_part lo hi 1 ((((Int32.ofNat (fs1 + wd1)).toInt64) - ((Int32.ofNat fs1).toInt64)) + (1 : Int64)))) + (own_part lo hi 2 ((((Int32.ofNat (fs2 + wd2)).toInt64) - ((Int32.ofNat fs2).toInt64)) + (1 : Int64))))), .second] [(.long (own_cs (own_set (own_set (own_set (fun _ => (0 : Int32)) 0 (Int32.ofNat (fs0 + wd0))) (0 + 1) (Int32.ofNat (fs1 + wd1))) ((0 + 1) + 1) (Int32.ofNat (fs2 + wd2))) (own_set (own_set (own_set (fun _ => (0 : Int32)) 0 (Int32.ofNat fs0)) (0 + 1) (Int32.ofNat fs1)) ((0 + 1) + 1) (Int32.ofNat fs2)) lo (hi - lo)))])) _
    refine XS.lload X166.here hx rfl (own_hb hby at_206) rfl ?_
    show Steps p.tables e below (T166.setTop (mkF m 208 #[.val (.long p0), .second, .val (.long p1), .second, .val (.long p2), .second, .val (.int p3), .val (.int (Int32.ofNat fs0)), .val (.int (Int32.ofNat (fs0 + wd0))), .val (.int (Int32.ofNat fs1)), .val (.int (Int32.ofNat (fs1 + wd1))), .val (.int (Int32.ofNat fs2)), .val (.int (Int32.ofNat (fs2 + wd2))), .val (.int (Int32.ofNat x1)), .val (.int (Int32.ofNat y1)), .val (.int (Int32.ofNat lo)), .val (.int (Int32.ofNat hi)), .val (.ref b139), .val (.long (own_cs (own_set (own_set (own_set (fun _ => (0 : Int32)) 0 (Int32.ofNat (fs0 + wd0))) (0 + 1) (Int32.ofNat (fs1 + wd1))) ((0 + 1) + 1) (Int32.ofNat (fs2 + wd2))) (own_set (own_set (own_set (fun _ => (0 : Int32)) 0 (Int32.ofNat fs0)) (0 + 1) (Int32.ofNat fs1)) ((0 + 1) + 1) (Int32.ofNat fs2)) lo (hi - lo))), .second, .val (.long ((((Int32.ofNat (fs0 + wd0)).toInt64) - ((Int32.ofNat fs0).toInt64)) + (1 : Int64))), .second, .val (.long ((((Int32.ofNat (fs1 + wd1)).toInt64) - ((Int32.ofNat fs1).toInt64)) + (1 : Int64))), .second, .val (.long ((((Int32.ofNat (fs2 + wd2)).toInt64) - ((Int32.ofNat fs2).toInt64)) + (1 : Int64))), .second, .val (.long (((own_part lo hi 0 ((((Int32.ofNat (fs0 + wd0)).toInt64) - ((Int32.ofNat fs0).toInt64)) + (1 : Int64))) + (own_part lo hi 1 ((((Int32.ofNat (fs1 + wd1)).toInt64) - ((Int32.ofNat fs1).toInt64)) + (1 : Int64)))) + (own_part lo hi 2 ((((Int32.ofNat (fs2 + wd2)).toInt64) - ((Int32.ofNat fs2).toInt64)) + (1 : Int64))))), .second] [(.long (((own_part lo hi 0 ((((Int32.ofNat (fs0 + wd0)).toInt64) - ((Int32.ofNat fs0).toInt64)) + (1 : Int64))) + (own_part lo hi 1 ((((Int32.ofNat (fs1 + wd1)).toInt64) - ((Int32.ofNat fs1).toInt64)) + (1 : Int64)))) + (own_part lo hi 2 ((((Int32.ofNat (fs2 + wd2)).toInt64) - ((Int32.ofNat fs2).toInt64)) + (1 : Int64))))), (.long (own_cs (own_set (own_set (own_set (fun _ => (0 : Int32)) 0 (Int32.ofNat (fs0 + wd0))) (0 + 1) (Int32.ofNat (fs1 + wd1))) ((0 + 1) + 1) (Int32.ofNat (fs2 + wd2))) (own_set (own_set (own_set (fun _ => (0 : Int32)) 0 (Int32.ofNat fs0)) (0 + 1) (Int32.ofNat fs1)) ((0 + 1) + 1) (Int32.ofNat fs2)) lo (hi - lo)))])) _
    refine XS.lcmp X166.here hx rfl (own_hb hby at_208) rfl ?_
    show Steps p.tables e below (T166.setTop (mkF m 209 #[.val (.long p0), .second, .val (.long p1), .second, .val (.long p2), .second, .val (.int p3), .val (.int (Int32.ofNat fs0)), .val (.int (Int32.ofNat (fs0 + wd0))), .val (.int (Int32.ofNat fs1)), .val (.int (Int32.ofNat (fs1 + wd1))), .val (.int (Int32.ofNat fs2)), .val (.int (Int32.ofNat (fs2 + wd2))), .val (.int (Int32.ofNat x1)), .val (.int (Int32.ofNat y1)), .val (.int (Int32.ofNat lo)), .val (.int (Int32.ofNat hi)), .val (.ref b139), .val (.long (own_cs (own_set (own_set (own_set (fun _ => (0 : Int32)) 0 (Int32.ofNat (fs0 + wd0))) (0 + 1) (Int32.ofNat (fs1 + wd1))) ((0 + 1) + 1) (Int32.ofNat (fs2 + wd2))) (own_set (own_set (own_set (fun _ => (0 : Int32)) 0 (Int32.ofNat fs0)) (0 + 1) (Int32.ofNat fs1)) ((0 + 1) + 1) (Int32.ofNat fs2)) lo (hi - lo))), .second, .val (.long ((((Int32.ofNat (fs0 + wd0)).toInt64) - ((Int32.ofNat fs0).toInt64)) + (1 : Int64))), .second, .val (.long ((((Int32.ofNat (fs1 + wd1)).toInt64) - ((Int32.ofNat fs1).toInt64)) + (1 : Int64))), .second, .val (.long ((((Int32.ofNat (fs2 + wd2)).toInt64) - ((Int32.ofNat fs2).toInt64)) + (1 : Int64))), .second, .val (.long (((own_part lo hi 0 ((((Int32.ofNat (fs0 + wd0)).toInt64) - ((Int32.ofNat fs0).toInt64)) + (1 : Int64))) + (own_part lo hi 1 ((((Int32.ofNat (fs1 + wd1)).toInt64) - ((Int32.ofNat fs1).toInt64)) + (1 : Int64)))) + (own_part lo hi 2 ((((Int32.ofNat (fs2 + wd2)).toInt64) - ((Int32.ofNat fs2).toInt64)) + (1 : Int64))))), .second] [(.int (lcmpW (own_cs (own_set (own_set (own_set (fun _ => (0 : Int32)) 0 (Int32.ofNat (fs0 + wd0))) (0 + 1) (Int32.ofNat (fs1 + wd1))) ((0 + 1) + 1) (Int32.ofNat (fs2 + wd2))) (own_set (own_set (own_set (fun _ => (0 : Int32)) 0 (Int32.ofNat fs0)) (0 + 1) (Int32.ofNat fs1)) ((0 + 1) + 1) (Int32.ofNat fs2)) lo (hi - lo)) (((own_part lo hi 0 ((((Int32.ofNat (fs0 + wd0)).toInt64) - ((Int32.ofNat fs0).toInt64)) + (1 : Int64))) + (own_part lo hi 1 ((((Int32.ofNat (fs1 + wd1)).toInt64) - ((Int32.ofNat fs1).toInt64)) + (1 : Int64)))) + (own_part lo hi 2 ((((Int32.ofNat (fs2 + wd2)).toInt64) - ((Int32.ofNat fs2).toInt64)) + (1 : Int64))))))])) _
    refine XS.ifNo X166.here hx rfl (own_hb hby at_209) rfl ((if0 _ _).trans (teq ((lw_eq _ _).mpr (own_total haa0 hwd0 haa1 hwd1 haa2 hwd2 hlh hh3))).2) ?_
    show Steps p.tables e below (T166.setTop (mkF m 212 #[.val (.long p0), .second, .val (.long p1), .second, .val (.long p2), .second, .val (.int p3), .val (.int (Int32.ofNat fs0)), .val (.int (Int32.ofNat (fs0 + wd0))), .val (.int (Int32.ofNat fs1)), .val (.int (Int32.ofNat (fs1 + wd1))), .val (.int (Int32.ofNat fs2)), .val (.int (Int32.ofNat (fs2 + wd2))), .val (.int (Int32.ofNat x1)), .val (.int (Int32.ofNat y1)), .val (.int (Int32.ofNat lo)), .val (.int (Int32.ofNat hi)), .val (.ref b139), .val (.long (own_cs (own_set (own_set (own_set (fun _ => (0 : Int32)) 0 (Int32.ofNat (fs0 + wd0))) (0 + 1) (Int32.ofNat (fs1 + wd1))) ((0 + 1) + 1) (Int32.ofNat (fs2 + wd2))) (own_set (own_set (own_set (fun _ => (0 : Int32)) 0 (Int32.ofNat fs0)) (0 + 1) (Int32.ofNat fs1)) ((0 + 1) + 1) (Int32.ofNat fs2)) lo (hi - lo))), .second, .val (.long ((((Int32.ofNat (fs0 + wd0)).toInt64) - ((Int32.ofNat fs0).toInt64)) + (1 : Int64))), .second, .val (.long ((((Int32.ofNat (fs1 + wd1)).toInt64) - ((Int32.ofNat fs1).toInt64)) + (1 : Int64))), .second, .val (.long ((((Int32.ofNat (fs2 + wd2)).toInt64) - ((Int32.ofNat fs2).toInt64)) + (1 : Int64))), .second, .val (.long (((own_part lo hi 0 ((((Int32.ofNat (fs0 + wd0)).toInt64) - ((Int32.ofNat fs0).toInt64)) + (1 : Int64))) + (own_part lo hi 1 ((((Int32.ofNat (fs1 + wd1)).toInt64) - ((Int32.ofNat fs1).toInt64)) + (1 : Int64)))) + (own_part lo hi 2 ((((Int32.ofNat (fs2 + wd2)).toInt64) - ((Int32.ofNat fs2).toInt64)) + (1 : Int64))))), .second] [])) _
    refine XS.aload X166.here hx rfl (own_hb hby at_212) rfl rfl ?_
    exact kt
  obtain ⟨cq167, kq167, q167a, q167b, q167c⟩ := isOf hZ hh166 p160_0
  obtain ⟨_, _, ⟨T167, L167, k167, n167⟩, -, X167, ⟨Lc167, hQ167, l167, y167, z167⟩, st167⟩ := X166.virtualBack hx (y := (⟨"com/example/sagasu/sagasu/Grid$RowRuns", "size", "()I"⟩ : MethodName)) (z := (⟨"com/example/sagasu/sagasu/Grid$RowRuns", "size", "()I"⟩ : MethodName)) hown (mvT hZ (hw _ (List.mem_of_getElem? (i := 46) rfl))) (mvT hZ (hw _ (List.mem_of_getElem? (i := 47) rfl))) (notFace_of_selects (args := #[]) (mvT hZ (hw _ (List.mem_of_getElem? (i := 49) rfl)))) (mvT hZ (hw _ (List.mem_of_getElem? (i := 49) rfl))) (mvT hZ (hw _ (List.mem_of_getElem? (i := 48) rfl))) (by decide) (backOf (W := 0) (rm10 l Z a0 hw [] b139 (Int32.ofNat (((0 + 1) + 1) + 1)) T160.heap n0 z162 p160_4) hZ (hw _ (List.mem_of_getElem? (i := 50) rfl)) (hw _ (List.mem_of_getElem? (i := 17) rfl)) (by decide) (by decide)) q167a q167c (g := (mkF m 214 #[.val (.long p0), .second, .val (.long p1), .second, .val (.long p2), .second, .val (.int p3), .val (.int (Int32.ofNat fs0)), .val (.int (Int32.ofNat (fs0 + wd0))), .val (.int (Int32.ofNat fs1)), .val (.int (Int32.ofNat (fs1 + wd1))), .val (.int (Int32.ofNat fs2)), .val (.int (Int32.ofNat (fs2 + wd2))), .val (.int (Int32.ofNat x1)), .val (.int (Int32.ofNat y1)), .val (.int (Int32.ofNat lo)), .val (.int (Int32.ofNat hi)), .val (.ref b139), .val (.long (own_cs (own_set (own_set (own_set (fun _ => (0 : Int32)) 0 (Int32.ofNat (fs0 + wd0))) (0 + 1) (Int32.ofNat (fs1 + wd1))) ((0 + 1) + 1) (Int32.ofNat (fs2 + wd2))) (own_set (own_set (own_set (fun _ => (0 : Int32)) 0 (Int32.ofNat fs0)) (0 + 1) (Int32.ofNat fs1)) ((0 + 1) + 1) (Int32.ofNat fs2)) lo (hi - lo))), .second, .val (.long ((((Int32.ofNat (fs0 + wd0)).toInt64) - ((Int32.ofNat fs0).toInt64)) + (1 : Int64))), .second, .val (.long ((((Int32.ofNat (fs1 + wd1)).toInt64) - ((Int32.ofNat fs1).toInt64)) + (1 : Int64))), .second, .val (.long ((((Int32.ofNat (fs2 + wd2)).toInt64) - ((Int32.ofNat fs2).toInt64)) + (1 : Int64))), .second, .val (.long (((own_part lo hi 0 ((((Int32.ofNat (fs0 + wd0)).toInt64) - ((Int32.ofNat fs0).toInt64)) + (1 : Int64))) + (own_part lo hi 1 ((((Int32.ofNat (fs1 + wd1)).toInt64) - ((Int32.ofNat fs1).toInt64)) + (1 : Int64)))) + (own_part lo hi 2 ((((Int32.ofNat (fs2 + wd2)).toInt64) - ((Int32.ofNat fs2).toInt64)) + (1 : Int64))))), .second] [(.ref b139)])) rfl (by rw [hml]; rfl) (Steps.refl _) (argsL := []) (rest := []) (lenOf pd_6 rfl) rfl (by show 2 * 0 + _ ≤ _; exact Nat.le_of_eq rfl) (own_hb hby at_214) (fun _ _ => ⟨rfl, hh166, (by decide : 4 + 0 ≤ _), (by decide : 196 + 0 ≤ _)⟩)
  dsimp only [Pt.U, Pt.locs, Pt.cells, Pt.slots] at X167 l167 y167 z167 st167 hQ167
  subst l167 y167 z167
  obtain ⟨rfl, N167q, hh167⟩ := hQ167
  have N167 := Fr.app N166 N167q
  refine own_Go.of (S' := (T167.setTop (mkF m 217 #[.val (.long p0), .second, .val (.long p1), .second, .val (.long p2), .second, .val (.int p3), .val (.int (Int32.ofNat fs0)), .val (.int (Int32.ofNat (fs0 + wd0))), .val (.int (Int32.ofNat fs1)), .val (.int (Int32.ofNat (fs1 + wd1))), .val (.int (Int32.ofNat fs2)), .val (.int (Int32.ofNat (fs2 + wd2))), .val (.int (Int32.ofNat x1)), .val (.int (Int32.ofNat y1)), .val (.int (Int32.ofNat lo)), .val (.int (Int32.ofNat hi)), .val (.ref b139), .val (.long (own_cs (own_set (own_set (own_set (fun _ => (0 : Int32)) 0 (Int32.ofNat (fs0 + wd0))) (0 + 1) (Int32.ofNat (fs1 + wd1))) ((0 + 1) + 1) (Int32.ofNat (fs2 + wd2))) (own_set (own_set (own_set (fun _ => (0 : Int32)) 0 (Int32.ofNat fs0)) (0 + 1) (Int32.ofNat fs1)) ((0 + 1) + 1) (Int32.ofNat fs2)) lo (hi - lo))), .second, .val (.long ((((Int32.ofNat (fs0 + wd0)).toInt64) - ((Int32.ofNat fs0).toInt64)) + (1 : Int64))), .second, .val (.long ((((Int32.ofNat (fs1 + wd1)).toInt64) - ((Int32.ofNat fs1).toInt64)) + (1 : Int64))), .second, .val (.long ((((Int32.ofNat (fs2 + wd2)).toInt64) - ((Int32.ofNat fs2).toInt64)) + (1 : Int64))), .second, .val (.long (((own_part lo hi 0 ((((Int32.ofNat (fs0 + wd0)).toInt64) - ((Int32.ofNat fs0).toInt64)) + (1 : Int64))) + (own_part lo hi 1 ((((Int32.ofNat (fs1 + wd1)).toInt64) - ((Int32.ofNat fs1).toInt64)) + (1 : Int64)))) + (own_part lo hi 2 ((((Int32.ofNat (fs2 + wd2)).toInt64) - ((Int32.ofNat fs2).toInt64)) + (1 : Int64))))), .second] [(.int (Int32.ofNat (((0 + 1) + 1) + 1)))]))) (fun t kt => st167.trans kt) ?_
  refine own_Go.of (S' := (T167.setTop (mkF m 226 #[.val (.long p0), .second, .val (.long p1), .second, .val (.long p2), .second, .val (.int p3), .val (.int (Int32.ofNat fs0)), .val (.int (Int32.ofNat (fs0 + wd0))), .val (.int (Int32.ofNat fs1)), .val (.int (Int32.ofNat (fs1 + wd1))), .val (.int (Int32.ofNat fs2)), .val (.int (Int32.ofNat (fs2 + wd2))), .val (.int (Int32.ofNat x1)), .val (.int (Int32.ofNat y1)), .val (.int (Int32.ofNat lo)), .val (.int (Int32.ofNat hi)), .val (.ref b139), .val (.long (own_cs (own_set (own_set (own_set (fun _ => (0 : Int32)) 0 (Int32.ofNat (fs0 + wd0))) (0 + 1) (Int32.ofNat (fs1 + wd1))) ((0 + 1) + 1) (Int32.ofNat (fs2 + wd2))) (own_set (own_set (own_set (fun _ => (0 : Int32)) 0 (Int32.ofNat fs0)) (0 + 1) (Int32.ofNat fs1)) ((0 + 1) + 1) (Int32.ofNat fs2)) lo (hi - lo))), .second, .val (.long ((((Int32.ofNat (fs0 + wd0)).toInt64) - ((Int32.ofNat fs0).toInt64)) + (1 : Int64))), .second, .val (.long ((((Int32.ofNat (fs1 + wd1)).toInt64) - ((Int32.ofNat fs1).toInt64)) + (1 : Int64))), .second, .val (.long ((((Int32.ofNat (fs2 + wd2)).toInt64) - ((Int32.ofNat fs2).toInt64)) + (1 : Int64))), .second, .val (.long (((own_part lo hi 0 ((((Int32.ofNat (fs0 + wd0)).toInt64) - ((Int32.ofNat fs0).toInt64)) + (1 : Int64))) + (own_part lo hi 1 ((((Int32.ofNat (fs1 + wd1)).toInt64) - ((Int32.ofNat fs1).toInt64)) + (1 : Int64)))) + (own_part lo hi 2 ((((Int32.ofNat (fs2 + wd2)).toInt64) - ((Int32.ofNat fs2).toInt64)) + (1 : Int64))))), .second] [(.int (1 : Int32))]))) (fun t kt => ?_) ?_
  · show Steps p.tables e below (T167.setTop (mkF m 217 #[.val (.long p0), .second, .val (.long p1), .second, .val (.long p2), .second, .val (.int p3), .val (.int (Int32.ofNat fs0)), .val (.int (Int32.ofNat (fs0 + wd0))), .val (.int (Int32.ofNat fs1)), .val (.int (Int32.ofNat (fs1 + wd1))), .val (.int (Int32.ofNat fs2)), .val (.int (Int32.ofNat (fs2 + wd2))), .val (.int (Int32.ofNat x1)), .val (.int (Int32.ofNat y1)), .val (.int (Int32.ofNat lo)), .val (.int (Int32.ofNat hi)), .val (.ref b139), .val (.long (own_cs (own_set (own_set (own_set (fun _ => (0 : Int32)) 0 (Int32.ofNat (fs0 + wd0))) (0 + 1) (Int32.ofNat (fs1 + wd1))) ((0 + 1) + 1) (Int32.ofNat (fs2 + wd2))) (own_set (own_set (own_set (fun _ => (0 : Int32)) 0 (Int32.ofNat fs0)) (0 + 1) (Int32.ofNat fs1)) ((0 + 1) + 1) (Int32.ofNat fs2)) lo (hi - lo))), .second, .val (.long ((((Int32.ofNat (fs0 + wd0)).toInt64) - ((Int32.ofNat fs0).toInt64)) + (1 : Int64))), .second, .val (.long ((((Int32.ofNat (fs1 + wd1)).toInt64) - ((Int32.ofNat fs1).toInt64)) + (1 : Int64))), .second, .val (.long ((((Int32.ofNat (fs2 + wd2)).toInt64) - ((Int32.ofNat fs2).toInt64)) + (1 : Int64))), .second, .val (.long (((own_part lo hi 0 ((((Int32.ofNat (fs0 + wd0)).toInt64) - ((Int32.ofNat fs0).toInt64)) + (1 : Int64))) + (own_part lo hi 1 ((((Int32.ofNat (fs1 + wd1)).toInt64) - ((Int32.ofNat fs1).toInt64)) + (1 : Int64)))) + (own_part lo hi 2 ((((Int32.ofNat (fs2 + wd2)).toInt64) - ((Int32.ofNat fs2).toInt64)) + (1 : Int64))))), .second] [(.int (Int32.ofNat (((0 + 1) + 1) + 1)))])) _
    refine XS.iconst X167.here hx rfl (own_hb hby at_217) ?_
    show Steps p.tables e below (T167.setTop (mkF m 218 #[.val (.long p0), .second, .val (.long p1), .second, .val (.long p2), .second, .val (.int p3), .val (.int (Int32.ofNat fs0)), .val (.int (Int32.ofNat (fs0 + wd0))), .val (.int (Int32.ofNat fs1)), .val (.int (Int32.ofNat (fs1 + wd1))), .val (.int (Int32.ofNat fs2)), .val (.int (Int32.ofNat (fs2 + wd2))), .val (.int (Int32.ofNat x1)), .val (.int (Int32.ofNat y1)), .val (.int (Int32.ofNat lo)), .val (.int (Int32.ofNat hi)), .val (.ref b139), .val (.long (own_cs (own_set (own_set (own_set (fun _ => (0 : Int32)) 0 (Int32.ofNat (fs0 + wd0))) (0 + 1) (Int32.ofNat (fs1 + wd1))) ((0 + 1) + 1) (Int32.ofNat (fs2 + wd2))) (own_set (own_set (own_set (fun _ => (0 : Int32)) 0 (Int32.ofNat fs0)) (0 + 1) (Int32.ofNat fs1)) ((0 + 1) + 1) (Int32.ofNat fs2)) lo (hi - lo))), .second, .val (.long ((((Int32.ofNat (fs0 + wd0)).toInt64) - ((Int32.ofNat fs0).toInt64)) + (1 : Int64))), .second, .val (.long ((((Int32.ofNat (fs1 + wd1)).toInt64) - ((Int32.ofNat fs1).toInt64)) + (1 : Int64))), .second, .val (.long ((((Int32.ofNat (fs2 + wd2)).toInt64) - ((Int32.ofNat fs2).toInt64)) + (1 : Int64))), .second, .val (.long (((own_part lo hi 0 ((((Int32.ofNat (fs0 + wd0)).toInt64) - ((Int32.ofNat fs0).toInt64)) + (1 : Int64))) + (own_part lo hi 1 ((((Int32.ofNat (fs1 + wd1)).toInt64) - ((Int32.ofNat fs1).toInt64)) + (1 : Int64)))) + (own_part lo hi 2 ((((Int32.ofNat (fs2 + wd2)).toInt64) - ((Int32.ofNat fs2).toInt64)) + (1 : Int64))))), .second] [(.int (3 : Int32)), (.int (Int32.ofNat (((0 + 1) + 1) + 1)))])) _
    refine XS.icmpNo X167.here hx rfl (own_hb hby at_218) rfl (teq (by decide)).2 ?_
    show Steps p.tables e below (T167.setTop (mkF m 221 #[.val (.long p0), .second, .val (.long p1), .second, .val (.long p2), .second, .val (.int p3), .val (.int (Int32.ofNat fs0)), .val (.int (Int32.ofNat (fs0 + wd0))), .val (.int (Int32.ofNat fs1)), .val (.int (Int32.ofNat (fs1 + wd1))), .val (.int (Int32.ofNat fs2)), .val (.int (Int32.ofNat (fs2 + wd2))), .val (.int (Int32.ofNat x1)), .val (.int (Int32.ofNat y1)), .val (.int (Int32.ofNat lo)), .val (.int (Int32.ofNat hi)), .val (.ref b139), .val (.long (own_cs (own_set (own_set (own_set (fun _ => (0 : Int32)) 0 (Int32.ofNat (fs0 + wd0))) (0 + 1) (Int32.ofNat (fs1 + wd1))) ((0 + 1) + 1) (Int32.ofNat (fs2 + wd2))) (own_set (own_set (own_set (fun _ => (0 : Int32)) 0 (Int32.ofNat fs0)) (0 + 1) (Int32.ofNat fs1)) ((0 + 1) + 1) (Int32.ofNat fs2)) lo (hi - lo))), .second, .val (.long ((((Int32.ofNat (fs0 + wd0)).toInt64) - ((Int32.ofNat fs0).toInt64)) + (1 : Int64))), .second, .val (.long ((((Int32.ofNat (fs1 + wd1)).toInt64) - ((Int32.ofNat fs1).toInt64)) + (1 : Int64))), .second, .val (.long ((((Int32.ofNat (fs2 + wd2)).toInt64) - ((Int32.ofNat fs2).toInt64)) + (1 : Int64))), .second, .val (.long (((own_part lo hi 0 ((((Int32.ofNat (fs0 + wd0)).toInt64) - ((Int32.ofNat fs0).toInt64)) + (1 : Int64))) + (own_part lo hi 1 ((((Int32.ofNat (fs1 + wd1)).toInt64) - ((Int32.ofNat fs1).toInt64)) + (1 : Int64)))) + (own_part lo hi 2 ((((Int32.ofNat (fs2 + wd2)).toInt64) - ((Int32.ofNat fs2).toInt64)) + (1 : Int64))))), .second] [])) _
    refine XS.iconst X167.here hx rfl (own_hb hby at_221) ?_
    show Steps p.tables e below (T167.setTop (mkF m 222 #[.val (.long p0), .second, .val (.long p1), .second, .val (.long p2), .second, .val (.int p3), .val (.int (Int32.ofNat fs0)), .val (.int (Int32.ofNat (fs0 + wd0))), .val (.int (Int32.ofNat fs1)), .val (.int (Int32.ofNat (fs1 + wd1))), .val (.int (Int32.ofNat fs2)), .val (.int (Int32.ofNat (fs2 + wd2))), .val (.int (Int32.ofNat x1)), .val (.int (Int32.ofNat y1)), .val (.int (Int32.ofNat lo)), .val (.int (Int32.ofNat hi)), .val (.ref b139), .val (.long (own_cs (own_set (own_set (own_set (fun _ => (0 : Int32)) 0 (Int32.ofNat (fs0 + wd0))) (0 + 1) (Int32.ofNat (fs1 + wd1))) ((0 + 1) + 1) (Int32.ofNat (fs2 + wd2))) (own_set (own_set (own_set (fun _ => (0 : Int32)) 0 (Int32.ofNat fs0)) (0 + 1) (Int32.ofNat fs1)) ((0 + 1) + 1) (Int32.ofNat fs2)) lo (hi - lo))), .second, .val (.long ((((Int32.ofNat (fs0 + wd0)).toInt64) - ((Int32.ofNat fs0).toInt64)) + (1 : Int64))), .second, .val (.long ((((Int32.ofNat (fs1 + wd1)).toInt64) - ((Int32.ofNat fs1).toInt64)) + (1 : Int64))), .second, .val (.long ((((Int32.ofNat (fs2 + wd2)).toInt64) - ((Int32.ofNat fs2).toInt64)) + (1 : Int64))), .second, .val (.long (((own_part lo hi 0 ((((Int32.ofNat (fs0 + wd0)).toInt64) - ((Int32.ofNat fs0).toInt64)) + (1 : Int64))) + (own_part lo hi 1 ((((Int32.ofNat (fs1 + wd1)).toInt64) - ((Int32.ofNat fs1).toInt64)) + (1 : Int64)))) + (own_part lo hi 2 ((((Int32.ofNat (fs2 + wd2)).toInt64) - ((Int32.ofNat fs2).toInt64)) + (1 : Int64))))), .second] [(.int (1 : Int32))])) _
    refine XS.goto X167.here hx rfl (pc0 := 222) (pc' := 226) rfl (own_hb hby at_222) (by decide) (by decide) ?_
    exact kt
  exact own_retN X167 hx hlk (t := .boolean) hret (by simp) (own_hb hby at_226) hh167 ⟨rfl, N167⟩ (by decide) (by decide)
set_option maxRecDepth 65536 in
set_option maxHeartbeats 40000000 in
theorem comes_1 {Post : Tables → Env → Array Value → State → Outcome → State → Prop} (hpost : ∀ tb e args s v u, (limb_1_1.after args s (.returned v) u = true ∧ limb_1_2.after args s (.returned v) u = true ∧ True) → FrameEnd s (.returned v) u (Jvm.fieldLocs frame_1_writes args s ++ Jvm.arrayLocs frame_1_arrays args s ++ Jvm.staticLocs frame_1_statics s) 16 512 → Post tb e args s (.returned v) u) :
    ArmFor flags0 classFile x code maxLocals ret World_1 tables_1 room_1 Calls_1 rest_1 Pre_1 Post := by
  intro l hfl _ _ p e ha hc hk s m args below hf hA hF happ hP
  obtain ⟨hcalls, hrest, hpre⟩ := hP
  obtain ⟨-, -, -, hnamed, -, -, -, hat⟩ := (Spec.applies_iff hf).mp happ
  obtain ⟨hg, hn⟩ := and_e (Cond.before_iff.mp (show (Jvm.Cond.and given_1 narrow_1).before args s = true from hpre))
  obtain ⟨gc, gr0⟩ := and_e hg
  obtain ⟨ga0, gr1⟩ := and_e gr0
  obtain ⟨ga1, gr2⟩ := and_e gr1
  obtain ⟨ga2, gr3⟩ := and_e gr2
  obtain ⟨w0, w1, w2, w3, rfl⟩ : ∃ w0 w1 w2 w3 : Value, args = #[w0, w1, w2, w3] := by
    have hs : args.size = 4 := by simpa [Cond.value, given_1] using gc
    obtain ⟨L⟩ := args
    match L, hs with
    | [w0, w1, w2, w3], _ => exact ⟨w0, w1, w2, w3, rfl⟩
  have hw := fun d (hd : d ∈ tables_1) => atoms_spec (ws := Jvm.Cond.code x code maxLocals ret :: tables_1) hat d (List.mem_cons_of_mem _ hd)
  have hfit : Fit s := fun {y c} hc i hi => by
    obtain ⟨ha, rfl⟩ := Array.getElem?_eq_some_iff.mp hc
    have q := List.all_eq_true.mp ((Array.all_eq_true_iff_forall_mem.mp hF) _ (Array.getElem_mem ha)) i (List.mem_range.mpr hi)
    simpa [Array.getElem?_eq_getElem hi] using q
  obtain ⟨i0, ei0⟩ := isL_v ga0
  obtain rfl : w0 = (.long i0) := Option.some.inj ei0
  obtain ⟨i1, ei1⟩ := isL_v ga1
  obtain rfl : w1 = (.long i1) := Option.some.inj ei1
  obtain ⟨i2, ei2⟩ := isL_v ga2
  obtain rfl : w2 = (.long i2) := Option.some.inj ei2
  obtain ⟨i3, ei3⟩ := is_v gr3
  obtain rfl : w3 = (.int i3) := Option.some.inj ei3
  obtain ⟨n, o, h1, h2, h3, _, L, rfl, ⟨rfl, N⟩, hq⟩ := rm0 l s _ hw tables_1 i0 i1 i2 i3 s.heap s.heap.size (Nat.le_refl _)  p e ha hc hk s m _ below hf ((Spec.applies_iff_loose hf).mp happ).1 ⟨rfl, State.Warmed39.refl s, rfl⟩ trivial
  refine ⟨n, _, h1, h2, h3, hpost _ _ _ _ _ _ ⟨Cond.after_iff.mpr rfl, Cond.after_iff.mpr (eq_i res_at (Term.int_eval (1)) rfl), trivial⟩ ⟨hq.1, hq.2.1, (hq.2.2.sift fun y hy => Or.inr (N y hy)).mono (by decide) (by decide)⟩⟩
theorem main_1_1 : Claimed_1_1 := comes_1 fun _ _ _ _ _ _ h hF => ⟨h.1, hF⟩
theorem main_1_2 : Claimed_1_2 := comes_1 fun _ _ _ _ _ _ h hF => ⟨h.2.1, hF⟩
end Jvm.Pilot.@@N@@
namespace Jvm.Pilot.@@N@@
open Jvm Jvm.ClassFile Sem Op Lib Jvm.Free Jvm.Stand Jvm.Pilot.@@N@@.Jvm.D
/-! MADE BY PROGRAM (witnessworld.py) out of the Statement's table words and the real class files: 10 classes; the members and pool entries that the words name. The judged class is class 1, her method 4. -/
namespace start1
open Jvm.ClassFile
def u (s : String) : CpInfo := .utf8 (stringToUtf16 s)
/-- a pool by its gaps: so many unusable entries, then the entry; so many at the end -/
def gap : Nat → List CpInfo → List CpInfo
  | 0, r => r
  | n + 1, r => .unusable :: gap n r
def poolList (es : List (Nat × CpInfo)) (last : Nat) : List CpInfo := es.foldr (fun e r => gap e.1 (e.2 :: r)) (gap last [])
def pool (es : List (Nat × CpInfo)) (last : Nat) : Array CpInfo := ⟨poolList es last⟩
def fileOf (pool : Array CpInfo) (this : Nat) (attrs : Array Attribute := #[]) (ms : Array MethodInfo := #[]) (fl : Nat := 33) (sup : Nat := 0) (ifs : Array Nat := #[]) (fds : Array FieldInfo := #[]) : ClassFile where
  minorVersion := 0
  majorVersion := 65
  constantPool := pool
  accessFlags := fl
  thisClass := this
  superClass := sup
  interfaces := ifs
  fields := fds
  methods := ms
  attributes := attrs
def plain (name : String) (sup : Option ClassId) : Class where
  name := name
  kind := .ordinary
  loader := none
  accessFlags := 33
  super := sup
  interfaces := #[]
  cf := none
  fields := #[]
  methods := #[]
  instanceTypes := #[]
  staticTypes := #[]
  resolved := #[]
  callSites := []
  init := .initialized
  statics := none
  mirror := none

def pool0 : Array CpInfo := pool [(5, u "<init>"), (0, u "()V"), (1, .class_ 10), (1, u "java/lang/Object")] 113

def k0c0 : Code := { maxStack := 0, maxLocals := 1, code := object_method_1_code, exceptionTable := #[], attributes := #[] }
def k0m0 : Method := { name := "<init>", desc := "()V", sig := { parameters := [], returnType := none }, accessFlags := 1, code := some k0c0 }
/-- java/lang/Object -/
def k0 : Class := { plain "java/lang/Object" none with
  accessFlags := 33
  interfaces := #[]
  cf := some (fileOf pool0 8 #[] #[{ accessFlags := 1, nameIndex := 5, descriptorIndex := 6, attributes := #[] }] 33 0 #[] #[])
  fields := #[]
  methods := #[k0m0]
  instanceTypes := #[]
  staticTypes := #[]
  resolved := Array.replicate 124 none
  statics := none }

def pool1 : Array CpInfo := pool [(2, .class_ 4), (0, .nameAndType 5 6), (0, u "java/lang/Object"), (0, u "<init>"), (0, u "()V"), (0, .integer 1073741823), (0, .methodref 9 10), (0, .class_ 11), (0, .nameAndType 12 13), (0, u "com/example/sagasu/sagasu/RowRunsCellsPinLaw"), (0, u "first"), (0, u "(J)I"), (0, .methodref 9 15), (0, .nameAndType 16 13), (0, u "width"), (0, .methodref 18 19), (0, .class_ 20), (0, .nameAndType 21 22), (0, u "java/lang/Math"), (0, u "min"), (0, u "(II)I"), (0, .methodref 18 24), (0, .nameAndType 25 22), (0, u "max"), (0, .class_ 27), (0, u "com/example/sagasu/sagasu/Grid$RowRuns"), (0, .methodref 26 3), (0, .methodref 26 30), (0, .nameAndType 31 32), (0, u "add"), (0, u "(III)V"), (0, .methodref 26 34), (0, .nameAndType 35 36), (0, u "cells"), (0, u "(II)J"), (0, .methodref 9 38), (0, .nameAndType 39 40), (0, u "part"), (0, u "(IIIJ)J"), (0, .methodref 26 42), (0, .nameAndType 43 44), (0, u "size"), (0, u "()I"), (3, u "law"), (0, u "(JJJI)Z")] 6

def k1m0 : Method := { name := "<init>", desc := "()V", sig := { parameters := [], returnType := none }, accessFlags := 1, code := none }
def k1c1 : Code := { maxStack := 2, maxLocals := 2, code := method_2_code, exceptionTable := #[], attributes := #[] }
def k1m1 : Method := { name := "first", desc := "(J)I", sig := { parameters := [.long], returnType := some .int }, accessFlags := 10, code := some k1c1 }
def k1c2 : Code := { maxStack := 3, maxLocals := 2, code := method_3_code, exceptionTable := #[], attributes := #[] }
def k1m2 : Method := { name := "width", desc := "(J)I", sig := { parameters := [.long], returnType := some .int }, accessFlags := 10, code := some k1c2 }
def k1c3 : Code := { maxStack := 2, maxLocals := 5, code := method_4_code, exceptionTable := #[], attributes := #[] }
def k1m3 : Method := { name := "part", desc := "(IIIJ)J", sig := { parameters := [.int, .int, .int, .long], returnType := some .long }, accessFlags := 10, code := some k1c3 }
def k1c4 : Code := { maxStack := 7, maxLocals := 28, code := code, exceptionTable := #[], attributes := #[] }
def k1m4 : Method := { name := "law", desc := "(JJJI)Z", sig := { parameters := [.long, .long, .long, .int], returnType := some .boolean }, accessFlags := 9, code := some k1c4 }
/-- com/example/sagasu/sagasu/RowRunsCellsPinLaw -/
def k1 : Class := { plain "com/example/sagasu/sagasu/RowRunsCellsPinLaw" (some 0) with
  accessFlags := 49
  interfaces := #[]
  cf := some (fileOf pool1 9 #[] #[{ accessFlags := 1, nameIndex := 5, descriptorIndex := 6, attributes := #[] }, { accessFlags := 10, nameIndex := 12, descriptorIndex := 13, attributes := #[] }, { accessFlags := 10, nameIndex := 16, descriptorIndex := 13, attributes := #[] }, { accessFlags := 10, nameIndex := 39, descriptorIndex := 40, attributes := #[] }, { accessFlags := 9, nameIndex := 48, descriptorIndex := 49, attributes := #[] }] 49 2 #[] #[])
  fields := #[]
  methods := #[k1m0, k1m1, k1m2, k1m3, k1m4]
  instanceTypes := #[]
  staticTypes := #[]
  resolved := Array.replicate 56 none
  statics := none }

def pool2 : Array CpInfo := pool [(1, .class_ 2), (0, u "java/lang/Math"), (1, .class_ 6), (1, u "java/lang/Object"), (0, u "<init>"), (0, u "()V"), (89, .class_ 100), (1, u "java/lang/Math$RandomNumberGeneratorHolder"), (71, u "negativeZeroFloatBits"), (0, u "J"), (2, u "negativeZeroDoubleBits"), (21, u "max"), (2, u "min"), (43, u "$assertionsDisabled"), (0, u "Z"), (88, u "(II)I"), (2, u "twoToTheDoubleScaleDown"), (0, u "D"), (4, u "twoToTheDoubleScaleUp"), (9, u "E"), (3, u "PI"), (2, u "TAU"), (2, u "DEGREES_TO_RADIANS"), (0, u "RADIANS_TO_DEGREES")] 94

def k2m0 : Method := { name := "<init>", desc := "()V", sig := { parameters := [], returnType := none }, accessFlags := 2, code := none }
def k2c1 : Code := { maxStack := 2, maxLocals := 2, code := jdk_29_method_65_code, exceptionTable := #[], attributes := #[] }
def k2m1 : Method := { name := "max", desc := "(II)I", sig := { parameters := [.int, .int], returnType := some .int }, accessFlags := 9, code := some k2c1 }
def k2c2 : Code := { maxStack := 2, maxLocals := 2, code := jdk_29_method_69_code, exceptionTable := #[], attributes := #[] }
def k2m2 : Method := { name := "min", desc := "(II)I", sig := { parameters := [.int, .int], returnType := some .int }, accessFlags := 9, code := some k2c2 }
/-- java/lang/Math -/
def k2 : Class := { plain "java/lang/Math" (some 0) with
  accessFlags := 49
  interfaces := #[]
  cf := some (fileOf pool2 1 #[.nestMembers #[98]] #[{ accessFlags := 2, nameIndex := 7, descriptorIndex := 8, attributes := #[] }, { accessFlags := 9, nameIndex := 198, descriptorIndex := 335, attributes := #[] }, { accessFlags := 9, nameIndex := 201, descriptorIndex := 335, attributes := #[] }] 49 4 #[] #[{ accessFlags := 25, nameIndex := 354, descriptorIndex := 339, attributes := #[] }, { accessFlags := 25, nameIndex := 358, descriptorIndex := 339, attributes := #[] }, { accessFlags := 25, nameIndex := 361, descriptorIndex := 339, attributes := #[] }, { accessFlags := 26, nameIndex := 364, descriptorIndex := 339, attributes := #[] }, { accessFlags := 26, nameIndex := 365, descriptorIndex := 339, attributes := #[] }, { accessFlags := 26, nameIndex := 172, descriptorIndex := 173, attributes := #[] }, { accessFlags := 26, nameIndex := 176, descriptorIndex := 173, attributes := #[] }, { accessFlags := 8, nameIndex := 344, descriptorIndex := 339, attributes := #[] }, { accessFlags := 8, nameIndex := 338, descriptorIndex := 339, attributes := #[] }, { accessFlags := 4120, nameIndex := 245, descriptorIndex := 246, attributes := #[] }])
  fields := #[{ name := "E", type := .double, accessFlags := 25, slot := 0, constantValue := 0 }, { name := "PI", type := .double, accessFlags := 25, slot := 1, constantValue := 0 }, { name := "TAU", type := .double, accessFlags := 25, slot := 2, constantValue := 0 }, { name := "DEGREES_TO_RADIANS", type := .double, accessFlags := 26, slot := 3, constantValue := 0 }, { name := "RADIANS_TO_DEGREES", type := .double, accessFlags := 26, slot := 4, constantValue := 0 }, { name := "negativeZeroFloatBits", type := .long, accessFlags := 26, slot := 5, constantValue := 0 }, { name := "negativeZeroDoubleBits", type := .long, accessFlags := 26, slot := 6, constantValue := 0 }, { name := "twoToTheDoubleScaleUp", type := .double, accessFlags := 8, slot := 7, constantValue := 0 }, { name := "twoToTheDoubleScaleDown", type := .double, accessFlags := 8, slot := 8, constantValue := 0 }, { name := "$assertionsDisabled", type := .boolean, accessFlags := 4120, slot := 9, constantValue := 0 }]
  methods := #[k2m0, k2m1, k2m2]
  instanceTypes := #[]
  staticTypes := #[.double, .double, .double, .double, .double, .long, .long, .double, .double, .boolean]
  resolved := Array.replicate 460 none
  statics := none }

def pool3 : Array CpInfo := pool [(1, .methodref 2 3), (0, .class_ 4), (0, .nameAndType 5 6), (0, u "java/lang/Object"), (0, u "<init>"), (0, u "()V"), (0, .fieldref 8 9), (0, .class_ 10), (0, .nameAndType 11 12), (0, u "com/example/sagasu/sagasu/Grid$RowRuns"), (0, u "rows"), (0, u "[I"), (0, .fieldref 8 14), (0, .nameAndType 15 12), (0, u "firstColumns"), (0, .fieldref 8 17), (0, .nameAndType 18 12), (0, u "lastColumns"), (0, .fieldref 8 20), (0, .nameAndType 21 22), (0, u "size"), (0, u "I"), (0, .long 2), (3, .long 2147483639), (21, u "add"), (0, u "(III)V"), (1, u "()I"), (1, u "cells"), (0, u "(II)J"), (9, .class_ 66), (0, u "com/example/sagasu/sagasu/Grid")] 2

def k3c0 : Code := { maxStack := 2, maxLocals := 1, code := prog_17_method_1_code, exceptionTable := #[], attributes := #[] }
def k3m0 : Method := { name := "<init>", desc := "()V", sig := { parameters := [], returnType := none }, accessFlags := 0, code := some k3c0 }
def k3c1 : Code := { maxStack := 4, maxLocals := 5, code := prog_17_method_2_code, exceptionTable := #[], attributes := #[] }
def k3m1 : Method := { name := "add", desc := "(III)V", sig := { parameters := [.int, .int, .int], returnType := none }, accessFlags := 0, code := some k3c1 }
def k3c2 : Code := { maxStack := 1, maxLocals := 1, code := prog_17_method_3_code, exceptionTable := #[], attributes := #[] }
def k3m2 : Method := { name := "size", desc := "()I", sig := { parameters := [], returnType := some .int }, accessFlags := 0, code := some k3c2 }
def k3c3 : Code := { maxStack := 5, maxLocals := 6, code := prog_17_method_5_code, exceptionTable := #[], attributes := #[] }
def k3m3 : Method := { name := "cells", desc := "(II)J", sig := { parameters := [.int, .int], returnType := some .long }, accessFlags := 0, code := some k3c3 }
/-- com/example/sagasu/sagasu/Grid$RowRuns -/
def k3 : Class := { plain "com/example/sagasu/sagasu/Grid$RowRuns" (some 0) with
  accessFlags := 48
  interfaces := #[]
  cf := some (fileOf pool3 8 #[.nestHost 65] #[{ accessFlags := 0, nameIndex := 5, descriptorIndex := 6, attributes := #[] }, { accessFlags := 0, nameIndex := 49, descriptorIndex := 50, attributes := #[] }, { accessFlags := 0, nameIndex := 21, descriptorIndex := 52, attributes := #[] }, { accessFlags := 0, nameIndex := 54, descriptorIndex := 55, attributes := #[] }] 48 2 #[] #[{ accessFlags := 2, nameIndex := 11, descriptorIndex := 12, attributes := #[] }, { accessFlags := 2, nameIndex := 15, descriptorIndex := 12, attributes := #[] }, { accessFlags := 2, nameIndex := 18, descriptorIndex := 12, attributes := #[] }, { accessFlags := 2, nameIndex := 21, descriptorIndex := 22, attributes := #[] }])
  fields := #[{ name := "rows", type := (.array .int), accessFlags := 2, slot := 0, constantValue := 0 }, { name := "firstColumns", type := (.array .int), accessFlags := 2, slot := 1, constantValue := 0 }, { name := "lastColumns", type := (.array .int), accessFlags := 2, slot := 2, constantValue := 0 }, { name := "size", type := .int, accessFlags := 2, slot := 3, constantValue := 0 }]
  methods := #[k3m0, k3m1, k3m2, k3m3]
  instanceTypes := #[(.array .int), (.array .int), (.array .int), .int]
  staticTypes := #[]
  resolved := Array.replicate 69 none
  statics := none }

def pool4 : Array CpInfo := pool [(1, u "java/lang/Cloneable"), (0, .class_ 1), (0, u "java/lang/Object"), (0, .class_ 3)] 3

/-- java/lang/Cloneable -/
def k4 : Class := { plain "java/lang/Cloneable" (some 0) with
  accessFlags := 1537
  interfaces := #[]
  cf := some (fileOf pool4 2 #[] #[] 1537 4 #[] #[])
  fields := #[]
  methods := #[]
  instanceTypes := #[]
  staticTypes := #[]
  resolved := Array.replicate 8 none
  statics := none }

def pool5 : Array CpInfo := pool [(1, u "java/io/Serializable"), (0, .class_ 1), (0, u "java/lang/Object"), (0, .class_ 3)] 3

/-- java/io/Serializable -/
def k5 : Class := { plain "java/io/Serializable" (some 0) with
  accessFlags := 1537
  interfaces := #[]
  cf := some (fileOf pool5 2 #[] #[] 1537 4 #[] #[])
  fields := #[]
  methods := #[]
  instanceTypes := #[]
  staticTypes := #[]
  resolved := Array.replicate 8 none
  statics := none }

/-- the primitive byte -/
def k6 : Class := { plain "byte" none with kind := .primitive 'B', accessFlags := 0x411 }
/-- [B -/
def k7 : Class := { plain "[B" (some 0) with kind := .array 6 .byte, interfaces := #[4, 5], accessFlags := 1041 }

/-- the primitive int -/
def k8 : Class := { plain "int" none with kind := .primitive 'I', accessFlags := 0x411 }
/-- [I -/
def k9 : Class := { plain "[I" (some 0) with kind := .array 8 .int, interfaces := #[4, 5], accessFlags := 1041 }

def heap : Heap := #[]
def classes : Array Class := #[k0, k1, k2, k3, k4, k5, k6, k7, k8, k9]
def interned : List (Array UInt16 × Addr) := []
def slotsUsed : Nat := 0
def theMethod : MethodId := ⟨1, 4⟩
def args0 : Array Value := #[.long 5, .long 8589934600, .long 77, .int 9]
def aboutOver (below : List Frame) : State where
  vm := { classes := classes, interned := interned.toArray }
  heap := heap
  slotsUsed := slotsUsed
  threads := #[{ frames := .invoking theMethod args0 :: below }]
def below0 : List Frame := [.native { method := ⟨0, 0⟩, args := #[] }]
def about1 : State := aboutOver below0
def p0 : Program := .bare "" "" ""
def e0 : Env := launch0.env 0 0 0
theorem w_frames : about1.frames = Frame.invoking theMethod args0 :: below0 := rfl
set_option maxRecDepth 65536 in
theorem w_args : argsFit about1.vm theMethod args0 = true := by decide +kernel
set_option maxRecDepth 65536 in
theorem w_heap : heapFits about1 = true := by decide +kernel
set_option maxRecDepth 65536 in
theorem w_runnable : about1.curStatus? = some .runnable := by decide +kernel
set_option maxRecDepth 65536 in
theorem w_alone : about1.alone = true := by decide +kernel
set_option maxRecDepth 65536 in
theorem w_named : about1.methodNamed? x = some theMethod := by decide +kernel
set_option maxRecDepth 65536 in
theorem w_hears : about1.hears theMethod below0 = true := by decide +kernel
set_option maxRecDepth 65536 in
theorem w_ripe : about1.ripe theMethod args0 below0 = true := by decide +kernel
theorem w_running : about1.status = .running := rfl
set_option maxRecDepth 65536 in
theorem w_room : about1.hasRoom e0.platform room_1 = true :=
  launch0.hasRoom_least _ room_1 (by decide +kernel) (by decide +kernel) (by decide +kernel) (by decide +kernel) (by decide +kernel) (by decide +kernel)
theorem allAtoms_all (ts : List Jvm.Cond) (a : Array Jvm.Value) (st : Jvm.State) : (allAtoms ts).before a st = ts.all (fun c => c.before a st) := by
  induction ts with
  | nil => rfl
  | cons c t ih =>
    show (Jvm.Cond.and c (allAtoms t)).before a st = _
    rw [Jvm.Cond.before_and, ih, List.all_cons]
def words1 : List Jvm.Cond := Jvm.Cond.code x code maxLocals ret :: tables_1
/-- a 'code' word, met by the world's own term for the bytes: nothing is compared byte by byte -/
theorem code_word {y : MethodName} {bytes : ByteArray} {mx : Nat} {rt : Option FieldType} {a : Array Value} {s : State} {m : MethodId} {meth : Method} {c : Code} (h1 : s.methodNamed? y = some m) (h2 : s.vm.method? m = some meth) (h3 : meth.code = some c) (h4 : c.code = bytes)
    (h5 : (c.maxLocals == mx && c.exceptionTable.isEmpty && decide (c.maxStack ≤ mostOperands) && decide (meth.sig.returnType = rt) && !meth.locks && decide (parseMethodDescriptor y.desc = some meth.sig)) = true) : (Jvm.Cond.code y bytes mx rt).before a s = true := by
  simp only [Bool.and_eq_true, beq_iff_eq, Bool.not_eq_true', decide_eq_true_eq] at h5
  obtain ⟨⟨⟨⟨⟨g1, g2⟩, g3⟩, g4⟩, g5⟩, g6⟩ := h5
  simp [Cond.before, Cond.holds, Cond.value, h1, h2, h3, h4, g1, g2, g3, g4, g5, g6]
def isCode : Jvm.Cond → Bool
  | .code _ _ _ _ => true
  | _ => false
theorem all_split {L : List Jvm.Cond} {P : Jvm.Cond → Bool} (h1 : L.all (fun c => isCode c || P c) = true) (h2 : ∀ c ∈ L.filter isCode, P c = true) : L.all P = true := by
  refine List.all_eq_true.mpr fun c hc => ?_
  have h := List.all_eq_true.mp h1 c hc
  rcases Bool.eq_false_or_eq_true (isCode c) with hi | hi
  · exact h2 c (List.mem_filter.mpr ⟨hc, hi⟩)
  · simpa [hi] using h
set_option maxRecDepth 65536 in
theorem w_c0 : (Jvm.Cond.code x code maxLocals ret).before args0 about1 = true := code_word (m := ⟨1, 4⟩) (meth := k1m4) (c := k1c4) (by decide +kernel) rfl rfl rfl (by decide +kernel)
set_option maxRecDepth 65536 in
theorem w_c1 : (Jvm.Cond.code ({ cls := "com/example/sagasu/sagasu/RowRunsCellsPinLaw", name := "first", desc := "(J)I" } : Jvm.MethodName) method_2_code (2 : Nat) (Option.some Jvm.ClassFile.FieldType.int)).before args0 about1 = true := code_word (m := ⟨1, 1⟩) (meth := k1m1) (c := k1c1) (by decide +kernel) rfl rfl rfl (by decide +kernel)
set_option maxRecDepth 65536 in
theorem w_c2 : (Jvm.Cond.code ({ cls := "com/example/sagasu/sagasu/RowRunsCellsPinLaw", name := "width", desc := "(J)I" } : Jvm.MethodName) method_3_code (2 : Nat) (Option.some Jvm.ClassFile.FieldType.int)).before args0 about1 = true := code_word (m := ⟨1, 2⟩) (meth := k1m2) (c := k1c2) (by decide +kernel) rfl rfl rfl (by decide +kernel)
set_option maxRecDepth 65536 in
theorem w_c3 : (Jvm.Cond.code ({ cls := "java/lang/Math", name := "min", desc := "(II)I" } : Jvm.MethodName) jdk_29_method_69_code (2 : Nat) (Option.some Jvm.ClassFile.FieldType.int)).before args0 about1 = true := code_word (m := ⟨2, 2⟩) (meth := k2m2) (c := k2c2) (by decide +kernel) rfl rfl rfl (by decide +kernel)
set_option maxRecDepth 65536 in
theorem w_c4 : (Jvm.Cond.code ({ cls := "java/lang/Math", name := "max", desc := "(II)I" } : Jvm.MethodName) jdk_29_method_65_code (2 : Nat) (Option.some Jvm.ClassFile.FieldType.int)).before args0 about1 = true := code_word (m := ⟨2, 1⟩) (meth := k2m1) (c := k2c1) (by decide +kernel) rfl rfl rfl (by decide +kernel)
set_option maxRecDepth 65536 in
theorem w_c5 : (Jvm.Cond.code ({ cls := "com/example/sagasu/sagasu/Grid$RowRuns", name := "<init>", desc := "()V" } : Jvm.MethodName) prog_17_method_1_code (1 : Nat) (Option.none : Option Jvm.ClassFile.FieldType)).before args0 about1 = true := code_word (m := ⟨3, 0⟩) (meth := k3m0) (c := k3c0) (by decide +kernel) rfl rfl rfl (by decide +kernel)
set_option maxRecDepth 65536 in
theorem w_c6 : (Jvm.Cond.code ({ cls := "java/lang/Object", name := "<init>", desc := "()V" } : Jvm.MethodName) object_method_1_code (1 : Nat) (Option.none : Option Jvm.ClassFile.FieldType)).before args0 about1 = true := code_word (m := ⟨0, 0⟩) (meth := k0m0) (c := k0c0) (by decide +kernel) rfl rfl rfl (by decide +kernel)
set_option maxRecDepth 65536 in
theorem w_c7 : (Jvm.Cond.code ({ cls := "com/example/sagasu/sagasu/Grid$RowRuns", name := "add", desc := "(III)V" } : Jvm.MethodName) prog_17_method_2_code (5 : Nat) (Option.none : Option Jvm.ClassFile.FieldType)).before args0 about1 = true := code_word (m := ⟨3, 1⟩) (meth := k3m1) (c := k3c1) (by decide +kernel) rfl rfl rfl (by decide +kernel)
set_option maxRecDepth 65536 in
theorem w_c8 : (Jvm.Cond.code ({ cls := "com/example/sagasu/sagasu/Grid$RowRuns", name := "cells", desc := "(II)J" } : Jvm.MethodName) prog_17_method_5_code (6 : Nat) (Option.some Jvm.ClassFile.FieldType.long)).before args0 about1 = true := code_word (m := ⟨3, 3⟩) (meth := k3m3) (c := k3c3) (by decide +kernel) rfl rfl rfl (by decide +kernel)
set_option maxRecDepth 65536 in
theorem w_c9 : (Jvm.Cond.code ({ cls := "com/example/sagasu/sagasu/RowRunsCellsPinLaw", name := "part", desc := "(IIIJ)J" } : Jvm.MethodName) method_4_code (5 : Nat) (Option.some Jvm.ClassFile.FieldType.long)).before args0 about1 = true := code_word (m := ⟨1, 3⟩) (meth := k1m3) (c := k1c3) (by decide +kernel) rfl rfl rfl (by decide +kernel)
set_option maxRecDepth 65536 in
theorem w_c10 : (Jvm.Cond.code ({ cls := "com/example/sagasu/sagasu/Grid$RowRuns", name := "size", desc := "()I" } : Jvm.MethodName) prog_17_method_3_code (1 : Nat) (Option.some Jvm.ClassFile.FieldType.int)).before args0 about1 = true := code_word (m := ⟨3, 2⟩) (meth := k3m2) (c := k3c2) (by decide +kernel) rfl rfl rfl (by decide +kernel)
def codes1 : List Jvm.Cond := [Jvm.Cond.code x code maxLocals ret, Jvm.Cond.code ({ cls := "com/example/sagasu/sagasu/RowRunsCellsPinLaw", name := "first", desc := "(J)I" } : Jvm.MethodName) method_2_code (2 : Nat) (Option.some Jvm.ClassFile.FieldType.int), Jvm.Cond.code ({ cls := "com/example/sagasu/sagasu/RowRunsCellsPinLaw", name := "width", desc := "(J)I" } : Jvm.MethodName) method_3_code (2 : Nat) (Option.some Jvm.ClassFile.FieldType.int), Jvm.Cond.code ({ cls := "java/lang/Math", name := "min", desc := "(II)I" } : Jvm.MethodName) jdk_29_method_69_code (2 : Nat) (Option.some Jvm.ClassFile.FieldType.int), Jvm.Cond.code ({ cls := "java/lang/Math", name := "max", desc := "(II)I" } : Jvm.MethodName) jdk_29_method_65_code (2 : Nat) (Option.some Jvm.ClassFile.FieldType.int), Jvm.Cond.code ({ cls := "com/example/sagasu/sagasu/Grid$RowRuns", name := "<init>", desc := "()V" } : Jvm.MethodName) prog_17_method_1_code (1 : Nat) (Option.none : Option Jvm.ClassFile.FieldType), Jvm.Cond.code ({ cls := "java/lang/Object", name := "<init>", desc := "()V" } : Jvm.MethodName) object_method_1_code (1 : Nat) (Option.none : Option Jvm.ClassFile.FieldType), Jvm.Cond.code ({ cls := "com/example/sagasu/sagasu/Grid$RowRuns", name := "add", desc := "(III)V" } : Jvm.MethodName) prog_17_method_2_code (5 : Nat) (Option.none : Option Jvm.ClassFile.FieldType), Jvm.Cond.code ({ cls := "com/example/sagasu/sagasu/Grid$RowRuns", name := "cells", desc := "(II)J" } : Jvm.MethodName) prog_17_method_5_code (6 : Nat) (Option.some Jvm.ClassFile.FieldType.long), Jvm.Cond.code ({ cls := "com/example/sagasu/sagasu/RowRunsCellsPinLaw", name := "part", desc := "(IIIJ)J" } : Jvm.MethodName) method_4_code (5 : Nat) (Option.some Jvm.ClassFile.FieldType.long), Jvm.Cond.code ({ cls := "com/example/sagasu/sagasu/Grid$RowRuns", name := "size", desc := "()I" } : Jvm.MethodName) prog_17_method_3_code (1 : Nat) (Option.some Jvm.ClassFile.FieldType.int)]
set_option maxRecDepth 65536 in
theorem codes_eq : words1.filter isCode = codes1 := rfl
theorem w_codes : ∀ c ∈ words1.filter isCode, c.before args0 about1 = true := by
  rw [codes_eq]
  intro c hc
  simp only [codes1, List.mem_cons, List.not_mem_nil, or_false] at hc
  rcases hc with rfl | rfl | rfl | rfl | rfl | rfl | rfl | rfl | rfl | rfl | rfl
  · exact w_c0
  · exact w_c1
  · exact w_c2
  · exact w_c3
  · exact w_c4
  · exact w_c5
  · exact w_c6
  · exact w_c7
  · exact w_c8
  · exact w_c9
  · exact w_c10
set_option maxRecDepth 65536 in
theorem w_t1 : (words1.take 24).all (fun c => isCode c || c.before args0 about1) = true := by decide +kernel
set_option maxRecDepth 65536 in
theorem w_t2 : ((words1.drop 24).take 24).all (fun c => isCode c || c.before args0 about1) = true := by decide +kernel
set_option maxRecDepth 65536 in
theorem w_t3 : ((words1.drop 24).drop 24).all (fun c => isCode c || c.before args0 about1) = true := by decide +kernel
theorem w_tables : (allAtoms (Jvm.Cond.code x code maxLocals ret :: tables_1)).before args0 about1 = true := by
  rw [allAtoms_all]
  show words1.all (fun c => c.before args0 about1) = true
  refine all_split ?_ w_codes
  rw [← List.take_append_drop 24 words1, List.all_append, w_t1, ← List.take_append_drop 24 (words1.drop 24), List.all_append, w_t2, w_t3]
  rfl
set_option maxRecDepth 65536 in
theorem w_case : (Jvm.Cond.and given_1 narrow_1).before args0 about1 = true := by decide +kernel
theorem w_applies : (headSpec (Jvm.Cond.code x code maxLocals ret :: tables_1) room_1).applies x e0.platform about1 = true :=
  (Spec.applies_iff w_frames).mpr ⟨w_running, w_runnable, w_alone, w_named, w_hears, w_ripe, w_room, w_tables⟩
theorem atStart : AtStart classFile x code maxLocals ret World_1 tables_1 room_1 Calls_1 rest_1 Pre_1 launch0 p0 e0 about1 theMethod args0 below0 :=
  ⟨lists_1, trivial, launch0.admits_env _ _ _, launch0.least_env, fairChoices_fair.cas, fairChoices_fair.clock, w_frames, w_args, w_heap, w_applies, trivial, trivial, w_case⟩
end start1
theorem witness_1 : WitnessClaimed_1 := ⟨start1.p0, start1.e0, start1.about1, start1.theMethod, start1.args0, start1.below0, start1.atStart⟩
end Jvm.Pilot.@@N@@
