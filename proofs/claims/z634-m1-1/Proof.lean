import JvmDerived
import JvmDerived.Pilot.@@N@@Statement
import JvmDerived.Pilot.@@N@@Code
set_option linter.unusedVariables false
set_option linter.unusedSimpArgs false
namespace Jvm.Pilot.@@N@@
open Jvm Jvm.ClassFile Sem Op Lib Jvm.Free Jvm.Stand Jvm.LawKit Jvm.RoadKit Bundle Jvm.Pilot.@@N@@.Jvm.D
section Own
variable {p : Program} {l : Launch} {e : Env} {R : Room} {s : State} {m : MethodId} {args : Array Value} {below : List Frame} {meth : Method} {c : Code} {T : State} {locs : List Loc} {cells slots : Nat} {Z : State} {a0 : Array Value} {h h' : Heap}
theorem own_hb {c : ClassFile.Code} {code : ByteArray} (h : c.code = code) {pc : Nat} {r : Except ClassFile.DecodeError (ClassFile.Instr × Nat)} (h2 : ClassFile.decode code pc = r) : ClassFile.decode c.code pc = r := h ▸ h2
/-- from S the run comes to an end of the method of which QQ holds -/
def own_Go (p : Program) (e : Env) (below : List Frame) (S : State) (QQ : Outcome → State → Prop) : Prop :=
  ∃ s₂ o, Steps p.tables e below S s₂ ∧ s₂.status = .running ∧ Ended s₂ below o ∧ QQ o s₂
theorem own_Go.of {S S' : State} {QQ : Outcome → State → Prop} (h : ∀ t, Steps p.tables e below S' t → Steps p.tables e below S t) (g : own_Go p e below S' QQ) : own_Go p e below S QQ := by
  obtain ⟨a, b, h1, h2⟩ := g
  exact ⟨a, b, h _ h1, h2⟩
/-- how a walked body ends: it returns v, with Q of the value, the heap and the places written -/
def own_End (s : State) (Q : Option Value → Heap → List Loc → Prop) (C K : Nat) : Outcome → State → Prop :=
  fun o U' => ∃ v L, o = .returned v ∧ Q v U'.heap L ∧ FrameEnd s o U' L C K
/-- the contract of a body, as RoadKit.backOf takes it -/
abbrev own_Met (l : Launch) (Z : State) (h0 : Heap) (y : MethodName) (bytes : ByteArray) (maxL : Nat) (ret : Option FieldType) (ws : List Jvm.Cond) (rm : Room) (as' : Array Value) (Q : Option Value → Heap → List Loc → Prop) : Prop :=
  MetFree l y (head1 (Jvm.Cond.code y bytes maxL ret :: ws) rm) (fun a U => a = as' ∧ Z.Warmed39 U.vm ∧ U.heap = h0) (fun _ _ _ _ _ => True) (fun _ U o U' => ∃ v L, o = .returned v ∧ Q v U'.heap L ∧ FrameEnd U o U' L rm.cells rm.slots)
theorem own_enter {h0 : Heap} {y : MethodName} {bytes : ByteArray} {maxL : Nat} {ret : Option FieldType} {ws : List Jvm.Cond} {rm : Room} {as' : Array Value} {Q : Option Value → Heap → List Loc → Prop} (hpl : plainFor y = true)
    (body : ∀ (p : Program) (e : Env) (s : State) (m : MethodId) (below : List Frame) (meth : Method) (c : Code) (T0 : State), Stand p l e rm s m as' below meth c T0 [] 0 0 → p.tables.exec = Jvm.exec → c.code = bytes → c.maxLocals = maxL → meth.sig.returnType = ret → meth.locks = false → s.vm.findClass y.cls = some m.cls → meth.name = y.name → Z.Warmed39 s.vm → T0.heap = h0 →
      own_Go p e below (T0.setTop (entryFrame m as' maxL)) (own_End s Q rm.cells rm.slots)) : own_Met l Z h0 y bytes maxL ret ws rm as' Q := by
  refine MetFree.of_bodySF hpl hisR ?_
  intro p e s m args below meth c s₁ Bd hml0 hP hK
  obtain ⟨rfl, hZ, hh⟩ := hP
  exact body p e s m below meth c s₁ (Stand.of_body Bd) Bd.exec Bd.bytes hml0 Bd.returns Bd.notSynchronized (findClass_of_methodNamed Bd.named) (name_of_methodNamed Bd.named Bd.method).1 hZ (by rw [← hh, Bd.state]; rfl)
theorem own_mono (X : Stand p l e R s m args below meth c T locs cells slots) {c' k' : Nat} (hc : cells ≤ c') (hk : slots ≤ k') : Stand p l e R s m args below meth c T locs c' k' :=
  ⟨X.admits, X.cas, X.clock, X.frames, X.room, X.hears, X.method, X.code, X.here, X.tail, X.warmed, X.limits, X.bytes, X.same.mono hc hk⟩
theorem own_leave (X : Stand p l e R s m args below meth c T locs cells slots) (hlk : meth.locks = false) {v : Option Value} {Q : Option Value → Heap → List Loc → Prop} {C K : Nat} {g : JFrame} (hv : meth.sig.returnType = none → v = none)
    (st : ∀ fs, (∀ (f : JFrame) (acts : List Action), f.method = m → f.locked = none → f.entered = [] → (doReturn e (T.setTop f) acts v).1 = T.setFrames fs) → Steps p.tables e below (T.setTop g) (T.setFrames fs))
    (eT : T.heap = h) (hQ : Q v h locs) (hc : cells ≤ C) (hk : slots ≤ K) : own_Go p e below (T.setTop g) (own_End s Q C K) := by
  obtain ⟨fs, hr, hrun, hended, hW, hsame⟩ := X.leave (v := v) hv hlk
  subst eT
  exact ⟨_, _, st fs hr, hrun, hended, v, locs, rfl, hQ, ⟨_, rfl⟩, hW, hsame.mono hc hk⟩
theorem own_retI (X : Stand p l e R s m args below meth c T locs cells slots) (hx : p.tables.exec = Jvm.exec) (hlk : meth.locks = false) {pc : Nat} {Ls : Array Slot} {z : Int32} {rest : List Value} {Q : Option Value → Heap → List Loc → Prop} {C K : Nat} (hret : meth.sig.returnType = some .int) (hd : decode c.code pc = .ok (.ireturn, 1))
    (eT : T.heap = h) (hQ : Q (some (.int z)) h locs) (hc : cells ≤ C) (hk : slots ≤ K) : own_Go p e below (T.setTop (mkF m pc Ls (.int z :: rest))) (own_End s Q C K) := by
  refine own_leave X hlk (fun q => by rw [hret] at q; cases q) (fun fs hl => ?_) eT hQ hc hk
  have hm' : T.vm.method? m = some meth := X.method'
  have hn : narrow .int (.int z) = .int z := rfl
  show Steps p.tables e below (T.setTop { method := m, pc := pc, locals := Ls, stack := _ :: rest, locked := none }) _
  jvm_step X.here [X.here.top, hx, hd, hm', hret, hn]
  first | (intro acts; rw [hl _ acts rfl rfl rfl]) | rw [hl _ _ rfl rfl rfl]
  exact Steps.refl _
theorem own_retN (X : Stand p l e R s m args below meth c T locs cells slots) (hx : p.tables.exec = Jvm.exec) (hlk : meth.locks = false) {pc : Nat} {Ls : Array Slot} {z : Int32} {t : FieldType} {rest : List Value} {Q : Option Value → Heap → List Loc → Prop} {C K : Nat} (hret : meth.sig.returnType = some t) (ht : t = .boolean ∨ t = .byte ∨ t = .char ∨ t = .short) (hd : decode c.code pc = .ok (.ireturn, 1))
    (eT : T.heap = h) (hQ : Q (some (.int (nar t z))) h locs) (hc : cells ≤ C) (hk : slots ≤ K) : own_Go p e below (T.setTop (mkF m pc Ls (.int z :: rest))) (own_End s Q C K) :=
  own_leave X hlk (fun q => by rw [hret] at q; cases q) (fun fs hl => retN X hx hret ht hd hl) eT hQ hc hk
theorem own_retV (X : Stand p l e R s m args below meth c T locs cells slots) (hx : p.tables.exec = Jvm.exec) (hlk : meth.locks = false) {pc : Nat} {Ls : Array Slot} {Q : Option Value → Heap → List Loc → Prop} {C K : Nat} (hret : meth.sig.returnType = none) (hd : decode c.code pc = .ok (.return_, 1))
    (eT : T.heap = h) (hQ : Q none h locs) (hc : cells ≤ C) (hk : slots ≤ K) : own_Go p e below (T.setTop (mkF m pc Ls [])) (own_End s Q C K) :=
  own_leave X hlk (fun _ => rfl) (fun fs hl => X.returnOut hx hret hd hl) eT hQ hc hk
theorem own_retJ (X : Stand p l e R s m args below meth c T locs cells slots) (hx : p.tables.exec = Jvm.exec) (hlk : meth.locks = false) {pc : Nat} {Ls : Array Slot} {z : Int64} {Q : Option Value → Heap → List Loc → Prop} {C K : Nat} (hret : meth.sig.returnType = some .long) (hd : decode c.code pc = .ok (.lreturn, 1))
    (eT : T.heap = h) (hQ : Q (some (.long z)) h locs) (hc : cells ≤ C) (hk : slots ≤ K) : own_Go p e below (T.setTop (mkF m pc Ls [.long z])) (own_End s Q C K) :=
  own_leave X hlk (fun q => by rw [hret] at q; cases q) (fun fs hl => X.lreturnOut hx hret hd hl) eT hQ hc hk
theorem own_retA (X : Stand p l e R s m args below meth c T locs cells slots) (hx : p.tables.exec = Jvm.exec) (hlk : meth.locks = false) {pc : Nat} {Ls : Array Slot} {v : Value} {t : FieldType} {rest : List Value} {Q : Option Value → Heap → List Loc → Prop} {C K : Nat} (hret : meth.sig.returnType = some t) (ht : t.isReference = true) (hv : v.isRef = true) (hd : decode c.code pc = .ok (.areturn, 1))
    (eT : T.heap = h) (hQ : Q (some v) h locs) (hc : cells ≤ C) (hk : slots ≤ K) : own_Go p e below (T.setTop (mkF m pc Ls (v :: rest))) (own_End s Q C K) := by
  refine own_leave X hlk (fun q => by rw [hret] at q; cases q) (fun fs hl => ?_) eT hQ hc hk
  have hm' : T.vm.method? m = some meth := X.method'
  show Steps p.tables e below (T.setTop { method := m, pc := pc, locals := Ls, stack := _ :: rest, locked := none }) _
  jvm_step X.here [X.here.top, hx, hd, hm', hret, ht, hv]
  first | (intro acts; rw [hl _ acts rfl rfl rfl]) | rw [hl _ _ rfl rfl rfl]
  exact Steps.refl _
/-! an array whose place i holds f i -/
def own_Ar (Z : State) (h : Heap) (a : Addr) (ty : FieldType) (n : Nat) (f : Nat → Value) : Prop :=
  n < 2 ^ 31 ∧ ∃ c : Cell, Arr Z h a c ty ∧ c.slots.size = n ∧ ∀ i, i < n → c.slots[i]? = some (f i) ∧ fits ty (f i) = true
def own_up (f : Nat → Value) (k : Nat) (v : Value) : Nat → Value := fun i => if i = k then v else f i
def own_I (g : Nat → Int32) : Nat → Value := fun j => .int (g j)
def own_set (g : Nat → Int32) (k : Nat) (x : Int32) : Nat → Int32 := fun j => if j = k then x else g j
theorem own_upI {g : Nat → Int32} {k : Nat} {x : Int32} : own_up (own_I g) k (.int x) = own_I (own_set g k x) := by
  funext j
  unfold own_up own_I own_set
  by_cases q : j = k
  · rw [if_pos q, if_pos q]
  · rw [if_neg q, if_neg q]
section Arrays
variable {a b : Addr} {ty : FieldType} {n k : Nat} {f : Nat → Value} {v : Value} {ws : List Addr} {sl : Nat} {j : Int32}
theorem own_Ar.lt (F : own_Ar Z h a ty n f) : a < h.size := by obtain ⟨_, c, A, _⟩ := F; exact A.lt
theorem own_Ar.ext (F : own_Ar Z h a ty n f) (E : Ext h h') : own_Ar Z h' a ty n f := by obtain ⟨q, c, A, r⟩ := F; exact ⟨q, c, A.ext E, r⟩
theorem own_Ar.other (F : own_Ar Z h b ty n f) (W : Wr h h' a sl v) (q : b ≠ a) : own_Ar Z h' b ty n f := by obtain ⟨q0, c, A, r⟩ := F; exact ⟨q0, c, A.other W q, r⟩
theorem own_Ar.keep (F : own_Ar Z h a ty n f) (K : Keep h h' ws) (q : a ∉ ws) : own_Ar Z h' a ty n f := by obtain ⟨q0, c, A, r⟩ := F; exact ⟨q0, c, ⟨K.2.1 a c A.1 q, A.2⟩, r⟩
theorem own_Ar.eqv {g : Nat → Value} (F : own_Ar Z h a ty n f) (q : ∀ i, i < n → f i = g i) : own_Ar Z h a ty n g := by
  obtain ⟨q0, c, A, r1, r2⟩ := F; exact ⟨q0, c, A, r1, fun i hi => by rw [← q i hi]; exact r2 i hi⟩
theorem own_Ar.eqvI {g g' : Nat → Int32} (F : own_Ar Z h a ty n (own_I g)) (q : ∀ i, i < n → g i = g' i) : own_Ar Z h a ty n (own_I g') := F.eqv fun i hi => by show Value.int _ = Value.int _; rw [q i hi]
theorem own_clamp (hk : k < 2 ^ 31) : (Int32.ofNat k).toNatClampNeg = k ∧ ¬ Int32.ofNat k < 0 := by
  have e : (Int32.ofNat k).toInt = (k : Int) := Int32.toInt_ofNat_of_lt hk
  refine ⟨?_, ?_⟩
  · show (Int32.ofNat k).toInt.toNat = k
    rw [e]; rfl
  · rw [Int32.lt_iff_toInt_lt, e]
    show ¬ ((k : Int) < 0)
    omega
theorem own_inb {cl : Cell} (S : cl.slots.size = n) (hn : n < 2 ^ 31) (e : j = Int32.ofNat k) (hk : k < n) : ¬ (j < 0 ∨ cl.slots.size ≤ j.toNatClampNeg) := by
  subst e
  obtain ⟨e1, e2⟩ := own_clamp (k := k) (by omega)
  rw [e1, S]
  rintro (q | q)
  · exact e2 q
  · omega
theorem own_Ar.get (F : own_Ar Z h a ty n f) (q : j = Int32.ofNat k ∧ k < n) : ∃ cl : Cell, Arr Z h a cl ty ∧ ¬ (j < 0 ∨ cl.slots.size ≤ j.toNatClampNeg) ∧ cl.slots[j.toNatClampNeg]? = some (f k) := by
  obtain ⟨hn, c, A, S, H⟩ := F
  refine ⟨c, A, own_inb S hn q.1 q.2, ?_⟩
  rw [q.1, (own_clamp (k := k) (by omega)).1]
  exact (H k q.2).1
theorem own_Ar.len (F : own_Ar Z h a ty n f) : ∃ cl : Cell, Arr Z h a cl ty ∧ cl.slots.size.toInt32 = Int32.ofNat n := by
  obtain ⟨hn, c, A, S, H⟩ := F
  refine ⟨c, A, ?_⟩
  rw [S]
theorem own_Ar.put (F : own_Ar Z h a ty n f) (q : j = Int32.ofNat k ∧ k < n) : ∃ cl : Cell, Arr Z h a cl ty ∧ ¬ (j < 0 ∨ cl.slots.size ≤ j.toNatClampNeg) ∧ ∀ {v : Value} {h' : Heap}, fits ty v = true → Wr h h' a j.toNatClampNeg v → own_Ar Z h' a ty n (own_up f k v) := by
  obtain ⟨hn, c, A, S, H⟩ := F
  refine ⟨c, A, own_inb S hn q.1 q.2, fun {v h'} hv W => ⟨hn, _, A.same W, by rw [sz_set]; exact S, fun i hi => ?_⟩⟩
  rw [q.1, (own_clamp (k := k) (by omega)).1]
  by_cases u : i = k
  · subst u
    simp [own_up, Cell.setSlot, S, hi, hv]
  · have u' : ¬ k = i := fun z => u z.symm
    simp only [own_up, u, if_false, Cell.setSlot, Array.getElem?_setIfInBounds, u']
    exact H i hi
theorem own_newP (X : Stand p l e R s m args below meth c T locs cells slots) (hx : p.tables.exec = Jvm.exec) (hZ : Z.Warmed39 s.vm) {aty : ArrayType} (w : (Cond.arrayClass (newarray.typeOf aty)).before a0 Z = true) (eT : T.heap = h) {g : JFrame} (hg : g.method = m) (hd : decode c.code g.pc = .ok (.newarray aty, 2)) {z : Int32} {rest : List Value} (hs : g.stack = .int z :: rest)
    {n cap : Nat} (hz : z = Int32.ofNat n) (hn : n ≤ cap) (hb : cap * 8 ≤ 536870912) (hc : cells + 1 ≤ R.cells) (hl : slots + cap ≤ R.slots) :
    ∃ T' h', Stand p l e R s m args below meth c T' locs (cells + 1) (slots + cap) ∧ T'.heap = h' ∧ Ext h h' ∧ own_Ar Z h' h.size (newarray.typeOf aty) n (fun _ => defaultValue (newarray.typeOf aty)) ∧
      ∀ target, Steps p.tables e below (T'.setTop { g with pc := g.pc + 2, stack := .ref h.size :: rest }) target → Steps p.tables e below (T.setTop g) target := by
  obtain ⟨e1, e2⟩ := own_clamp (k := n) (by omega)
  subst hz
  obtain ⟨T', h', cA, X', e', E, A, st⟩ := newP X hx hZ w eT hg hd hs e2 (cap := cap) (by rw [e1]; exact hn) hb hc hl
  refine ⟨T', h', X', e', E, ⟨by omega, _, A, by rw [sz_new, e1], fun i hi => ⟨?_, by cases aty <;> rfl⟩⟩, st⟩
  simp [newA, e1, hi]
end Arrays
theorem own_st1 {l : Array Slot} {i : Nat} {v : Value} {o : Slot} (hold : l[i]? = some o) (ho : o = .unset ∨ ∃ w, o = .val w ∧ w.category = 1) (hv : v.category = 1) : storeLocals l i v = some (l.setIfInBounds i (.val v)) := XS.store1 hold ho hv
/-- the cell at x stands as it stood -/
def own_Kx (h h' : Heap) (x : Addr) : Prop := h.size ≤ h'.size ∧ ∀ c : Cell, h[x]? = some c → h'[x]? = some c
section Kx
variable {x a : Addr} {h2 : Heap} {sl : Nat} {v : Value} {ws : List Addr}
theorem own_Kx.refl : own_Kx h h x := ⟨Nat.le_refl _, fun _ q => q⟩
theorem own_Kx.ext (K : own_Kx h h' x) (E : Ext h' h2) : own_Kx h h2 x := ⟨Nat.le_trans K.1 E.1, fun c q => E.2 _ _ (K.2 c q)⟩
theorem own_Kx.keep (K : own_Kx h h' x) (K' : Keep h' h2 ws) (q : x ∉ ws) : own_Kx h h2 x := ⟨Nat.le_trans K.1 K'.1, fun c r => K'.2.1 _ _ (K.2 c r) q⟩
theorem own_Kx.wr (K : own_Kx h h' x) (W : Wr h' h2 a sl v) (q : x ≠ a) : own_Kx h h2 x := K.keep (Keep.of_wr W) (ninS q nin0)
theorem own_Kx.trans (K : own_Kx h h' x) (K' : own_Kx h' h2 x) : own_Kx h h2 x := ⟨Nat.le_trans K.1 K'.1, fun c r => K'.2 _ (K.2 c r)⟩
theorem own_Ar.kx {ty : FieldType} {n : Nat} {f : Nat → Value} (F : own_Ar Z h x ty n f) (K : own_Kx h h' x) : own_Ar Z h' x ty n f := by obtain ⟨q0, c, A, r⟩ := F; exact ⟨q0, c, ⟨K.2 c A.1, A.2⟩, r⟩
def own_Lt (h : Heap) (x : Addr) : Prop := x < h.size
theorem own_Lt.lt (q : own_Lt h x) : x < h.size := q
theorem own_Lt.ext (q : own_Lt h x) (E : Ext h h') : own_Lt h' x := Nat.lt_of_lt_of_le q E.1
theorem own_Lt.keep (q : own_Lt h x) (K : Keep h h' ws) : own_Lt h' x := Nat.lt_of_lt_of_le q K.1
theorem own_Lt.wr (q : own_Lt h x) (W : Wr h h' a sl v) : own_Lt h' x := q.keep (Keep.of_wr W)
theorem own_Lt.kx {y : Addr} (q : own_Lt h x) (K : own_Kx h h' y) : own_Lt h' x := Nat.lt_of_lt_of_le q K.1
end Kx
/-! numbers: small naturals as ints -/
theorem own_toInt {a : Nat} (ha : a < 2 ^ 31) : (Int32.ofNat a).toInt = (a : Int) := Int32.toInt_ofNat_of_lt ha
theorem own_mask (x : Int32) (m : Nat) : ∃ k : Nat, k ≤ m ∧ (x &&& Int32.ofNat m) = Int32.ofNat k := by
  refine ⟨(x.toBitVec.toNat &&& (m % 2 ^ 32)), Nat.le_trans Nat.and_le_right (Nat.mod_le _ _), ?_⟩
  apply Int32.toBitVec_inj.mp
  apply BitVec.eq_of_toNat_eq
  rw [Int32.toBitVec_and, BitVec.toNat_and]
  show _ &&& (BitVec.ofNat 32 m).toNat = (BitVec.ofNat 32 _).toNat
  rw [BitVec.toNat_ofNat, BitVec.toNat_ofNat]
  rw [Nat.mod_eq_of_lt (a := _ &&& _)]
  exact Nat.lt_of_le_of_lt Nat.and_le_right (Nat.mod_lt _ (by decide))
theorem own_ltN {a b : Nat} (ha : a < 2 ^ 31) (hb : b < 2 ^ 31) : Int32.ofNat a < Int32.ofNat b ↔ a < b := by
  rw [Int32.lt_iff_toInt_lt, own_toInt ha, own_toInt hb]; omega
theorem own_eqN' {a b : Nat} (h : a = b) : Int32.ofNat a = Int32.ofNat b := by rw [h]
theorem own_eqN {a b : Nat} (ha : a < 2 ^ 31) (hb : b < 2 ^ 31) : Int32.ofNat a = Int32.ofNat b ↔ a = b := by
  constructor
  · intro h
    have h2 := congrArg Int32.toInt h
    rw [own_toInt ha, own_toInt hb] at h2; omega
  · exact own_eqN'
theorem own_addN (a b : Nat) : Int32.ofNat a + Int32.ofNat b = Int32.ofNat (a + b) := (Int32.ofNat_add a b).symm
theorem own_subN {a b : Nat} (h : b ≤ a) : Int32.ofNat a - Int32.ofNat b = Int32.ofNat (a - b) := by
  have h2 : Int32.ofNat a = Int32.ofNat (a - b) + Int32.ofNat b := by rw [own_addN]; congr 1; omega
  rw [h2, Int32.add_sub_cancel]
theorem own_nzN {a : Nat} (h0 : 0 < a) (ha : a < 2 ^ 31) : Int32.ofNat a ≠ (0 : Int32) := by
  intro h
  have h2 : Int32.ofNat a = Int32.ofNat 0 := h
  rw [own_eqN ha (by decide)] at h2; omega
theorem own_remN {a b : Nat} (ha : a < 2 ^ 31) (hb : b < 2 ^ 31) : (Int32.ofNat a - (Int32.ofNat a / Int32.ofNat b) * Int32.ofNat b) = Int32.ofNat (a % b) := by
  apply Int32.toInt_inj.mp
  have hm : a % b < 2 ^ 31 := Nat.lt_of_le_of_lt (Nat.mod_le _ _) ha
  rw [rem_toInt, own_toInt ha, own_toInt hb, own_toInt hm]
  exact (Int.ofNat_tmod a b).symm
theorem own_bm (x : Int) (h1 : -2147483648 ≤ x) (h2 : x < 2147483648) : x.bmod (2 ^ 32) = x := Int.bmod_eq_of_le (by omega) (by omega)
theorem own_bm64 (x : Int) (h1 : -9223372036854775808 ≤ x) (h2 : x < 9223372036854775808) : x.bmod (2 ^ 64) = x := Int.bmod_eq_of_le (by omega) (by omega)
end Own

def own_eq4 (a b c d a' b' c' d' : Int64) : Int32 := if a = a' ∧ b = b' ∧ c = c' ∧ d = d' then 1 else 0
theorem own_eq4_comm (a b c d a' b' c' d' : Int64) : own_eq4 a b c d a' b' c' d' = own_eq4 a' b' c' d' a b c d := by
  unfold own_eq4
  by_cases h : a = a' ∧ b = b' ∧ c = c' ∧ d = d'
  · rw [if_pos h, if_pos ⟨h.1.symm, h.2.1.symm, h.2.2.1.symm, h.2.2.2.symm⟩]
  · rw [if_neg h, if_neg fun q => h ⟨q.1.symm, q.2.1.symm, q.2.2.1.symm, q.2.2.2.symm⟩]
/-- a Long is no FileStamp (or whatever other class that can be instantiated) -/
theorem own_NSroot {Z : State} {a0 : Array Value} {O K : String} {n : Nat} (w : (Cond.noSuperclass O).before a0 Z = true) (wk : (Cond.instantiable K n).before a0 Z = true) (hn : O ≠ K) : NS Z O K := by
  obtain ⟨c, k, h1, h2, h3, -, -⟩ := Cond.noSuperclass_spec w
  obtain ⟨t, kt, g1, -⟩ := Cond.instantiable_spec wk
  have ne := ids_ne h1 g1 hn
  refine ⟨c, t, h1, g1, fun fuel => ?_⟩
  cases fuel with
  | zero => rfl
  | succ f => simp [Vm.isSubclassAux, ne, h2, h3]
theorem own_NSno {Z : State} {a0 : Array Value} {C S K : String} {n : Nat} (w : (Cond.superclass C S).before a0 Z = true) (wk : (Cond.instantiable K n).before a0 Z = true) (nn : NS Z C K) (hn : C ≠ K) : ∃ c t, Z.vm.findClass C = some c ∧ Z.vm.findClass K = some t ∧ Z.vm.assignable c t = false := by
  obtain ⟨c, t, h0, g0, n3⟩ := nn
  obtain ⟨p, k, kp, h1, h2, h3, h4, h5, -, h7⟩ := Cond.superclass_spec h0 w
  obtain ⟨t', kt, g1, g2, g3, g4, -, -⟩ := Cond.instantiable_spec wk
  cases g0.symm.trans g1
  have g5 : kt.isInterface = false := by
    cases q : kt.isInterface with
    | false => rfl
    | true => rw [q] at g4; simp at g4
  have ne := ids_ne h0 g0 hn
  refine ⟨c, t, h0, g0, ?_⟩
  show Z.vm.assignableAux (255 + 1) c t = false
  simp [Vm.assignableAux, ne, h2, g2, h5, g5, g3, Vm.isSubclass, n3]
theorem d2_0 : decode jdk_30_method_1_code 0 = .ok (.aload_n 0, 1) := by decide +kernel
theorem d2_1 : decode jdk_30_method_1_code 1 = .ok (.invokespecial 1, 3) := by decide +kernel
theorem d2_4 : decode jdk_30_method_1_code 4 = .ok (.return_, 1) := by decide +kernel
theorem pn_2 : plainName "java/lang/Record" = true := by first | (simp [plainName, overriddenIn]; done) | decide +kernel
def Q_rm2 (Z : State) (o : Addr) (h0 : Heap) (n0 : Nat) (v : Option Value) (h : Heap) (L : List Loc) : Prop := v = none ∧ Fr n0 L ∧ h = h0
set_option maxRecDepth 65536 in
set_option maxHeartbeats 40000000 in
theorem rm2 (l : Launch) (Z : State) (a0 : Array Value) (hw : ∀ d ∈ tables_1, d.before a0 Z = true) (ws : List Jvm.Cond) (o : Addr) (h0 : Heap) (n0 : Nat) (Z0 : n0 ≤ h0.size)  :
    own_Met l Z h0 (⟨"java/lang/Record", "<init>", "()V"⟩ : MethodName) jdk_30_method_1_code 1 none ws ({ frames := 1, cells := 0, slots := 0, locals := 12 } : Room) #[(.ref o)] (Q_rm2 Z o h0 n0) := by
  refine own_enter (plainFor_of_name pn_2) ?_
  intro p e s m below meth c T0 X0 hx hby hml hret hlk hown hnm hZ e0
  have N0 := Fr.nil n0
  rw [show entryFrame m #[(.ref o)] 1 = (mkF m 0 #[.val (.ref o)] []) from by first | (simp [entryFrame, mkF, argsToLocals, Value.category]; done) | rfl]
  refine own_Go.of (S' := (T0.setTop (mkF m 1 #[.val (.ref o)] [(.ref o)]))) (fun t kt => ?_) ?_
  · show Steps p.tables e below (T0.setTop (mkF m 0 #[.val (.ref o)] [])) _
    refine XS.aloadN X0.here hx rfl (own_hb hby d2_0) rfl rfl ?_
    exact kt
  obtain ⟨T1, X1, e1, st1⟩ := initO X0 hx hZ hown (hw _ (List.mem_of_getElem? (i := 11) rfl)) (hw _ (List.mem_of_getElem? (i := 12) rfl)) (hw _ (List.mem_of_getElem? (i := 13) rfl)) e0 (g := (mkF m 1 #[.val (.ref o)] [(.ref o)])) rfl (by rw [hml]; rfl) rfl (own_hb hby d2_1) (by decide) (W := 0) (by show 2 * 0 + _ ≤ _; exact Nat.le_of_eq rfl) (by decide)
  refine own_Go.of (S' := (T1.setTop (mkF m 4 #[.val (.ref o)] []))) st1 ?_
  exact own_retV X1 hx hlk hret (own_hb hby d2_4) e1 ⟨rfl, N0, rfl⟩ (by decide) (by decide)
theorem d1_0 : decode prog_27_method_1_code 0 = .ok (.aload_n 0, 1) := by decide +kernel
theorem d1_1 : decode prog_27_method_1_code 1 = .ok (.invokespecial 1, 3) := by decide +kernel
theorem d1_4 : decode prog_27_method_1_code 4 = .ok (.aload_n 0, 1) := by decide +kernel
theorem d1_5 : decode prog_27_method_1_code 5 = .ok (.lload_n 1, 1) := by decide +kernel
theorem d1_6 : decode prog_27_method_1_code 6 = .ok (.putfield 7, 3) := by decide +kernel
theorem d1_9 : decode prog_27_method_1_code 9 = .ok (.aload_n 0, 1) := by decide +kernel
theorem d1_10 : decode prog_27_method_1_code 10 = .ok (.lload_n 3, 1) := by decide +kernel
theorem d1_11 : decode prog_27_method_1_code 11 = .ok (.putfield 13, 3) := by decide +kernel
theorem d1_14 : decode prog_27_method_1_code 14 = .ok (.aload_n 0, 1) := by decide +kernel
theorem d1_15 : decode prog_27_method_1_code 15 = .ok (.lload 5, 2) := by decide +kernel
theorem d1_17 : decode prog_27_method_1_code 17 = .ok (.putfield 16, 3) := by decide +kernel
theorem d1_20 : decode prog_27_method_1_code 20 = .ok (.aload_n 0, 1) := by decide +kernel
theorem d1_21 : decode prog_27_method_1_code 21 = .ok (.lload 7, 2) := by decide +kernel
theorem d1_23 : decode prog_27_method_1_code 23 = .ok (.putfield 19, 3) := by decide +kernel
theorem d1_26 : decode prog_27_method_1_code 26 = .ok (.return_, 1) := by decide +kernel
theorem pn_1 : plainName "com/example/quayside/quayside/FileStamp" = true := by first | (simp [plainName, overriddenIn]; done) | decide +kernel
theorem pd_0 : parseMethodDescriptor "()V" = some ⟨[], none⟩ := by decide +kernel
def Q_rm1 (Z : State) (o : Addr) (q0 : Int64) (q1 : Int64) (q2 : Int64) (q3 : Int64) (u0 : Value) (u1 : Value) (u2 : Value) (u3 : Value) (h0 : Heap) (n0 : Nat) (v : Option Value) (h : Heap) (L : List Loc) : Prop := v = none ∧ Fr n0 L ∧ Keep h0 h [o] ∧ (Exa Z h o "com/example/quayside/quayside/FileStamp") ∧ (Fld Z h o "com/example/quayside/quayside/FileStamp" "device" "J" (.long q0)) ∧ (Fld Z h o "com/example/quayside/quayside/FileStamp" "inode" "J" (.long q1)) ∧ (Fld Z h o "com/example/quayside/quayside/FileStamp" "size" "J" (.long q2)) ∧ (Fld Z h o "com/example/quayside/quayside/FileStamp" "changed" "J" (.long q3))
set_option maxRecDepth 65536 in
set_option maxHeartbeats 40000000 in
theorem rm1 (l : Launch) (Z : State) (a0 : Array Value) (hw : ∀ d ∈ tables_1, d.before a0 Z = true) (ws : List Jvm.Cond) (o : Addr) (q0 : Int64) (q1 : Int64) (q2 : Int64) (q3 : Int64) (u0 : Value) (u1 : Value) (u2 : Value) (u3 : Value) (h0 : Heap) (n0 : Nat) (Z0 : n0 ≤ h0.size) (pr0 : Exa Z h0 o "com/example/quayside/quayside/FileStamp") (pr1 : Fld Z h0 o "com/example/quayside/quayside/FileStamp" "device" "J" u0) (pr2 : Fld Z h0 o "com/example/quayside/quayside/FileStamp" "inode" "J" u1) (pr3 : Fld Z h0 o "com/example/quayside/quayside/FileStamp" "size" "J" u2) (pr4 : Fld Z h0 o "com/example/quayside/quayside/FileStamp" "changed" "J" u3) (pr5 : n0 ≤ o) :
    own_Met l Z h0 (⟨"com/example/quayside/quayside/FileStamp", "<init>", "(JJJJ)V"⟩ : MethodName) prog_27_method_1_code 9 none ws ({ frames := 2, cells := 0, slots := 0, locals := 24 } : Room) #[(.ref o), (.long q0), (.long q1), (.long q2), (.long q3)] (Q_rm1 Z o q0 q1 q2 q3 u0 u1 u2 u3 h0 n0) := by
  refine own_enter (plainFor_of_name pn_1) ?_
  intro p e s m below meth c T0 X0 hx hby hml hret hlk hown hnm hZ e0
  have N0 := Fr.nil n0
  have kp0 : Keep h0 h0 [o] := Keep.refl h0 _
  rw [show entryFrame m #[(.ref o), (.long q0), (.long q1), (.long q2), (.long q3)] 9 = (mkF m 0 #[.val (.ref o), .val (.long q0), .second, .val (.long q1), .second, .val (.long q2), .second, .val (.long q3), .second] []) from by first | (simp [entryFrame, mkF, argsToLocals, Value.category]; done) | rfl]
  refine own_Go.of (S' := (T0.setTop (mkF m 1 #[.val (.ref o), .val (.long q0), .second, .val (.long q1), .second, .val (.long q2), .second, .val (.long q3), .second] [(.ref o)]))) (fun t kt => ?_) ?_
  · show Steps p.tables e below (T0.setTop (mkF m 0 #[.val (.ref o), .val (.long q0), .second, .val (.long q1), .second, .val (.long q2), .second, .val (.long q3), .second] [])) _
    refine XS.aloadN X0.here hx rfl (own_hb hby d1_0) rfl rfl ?_
    exact kt
  obtain ⟨_, _, ⟨T2, L2, k2, n2⟩, -, X2, ⟨Lc2, hQ2, l2, y2, z2⟩, st2⟩ := X0.specialBack hx (y := (⟨"java/lang/Record", "<init>", "()V"⟩ : MethodName)) rfl hown (mvT hZ (hw _ (List.mem_of_getElem? (i := 6) rfl))) (mvT hZ (hw _ (List.mem_of_getElem? (i := 7) rfl))) (mvT hZ (hw _ (List.mem_of_getElem? (i := 10) rfl))) (by decide) (backOf (W := 0) (rm2 l Z a0 hw [] o h0 n0 Z0 ) hZ (hw _ (List.mem_of_getElem? (i := 10) rfl)) (hw _ (List.mem_of_getElem? (i := 9) rfl)) (by decide) (by decide)) (g := (mkF m 1 #[.val (.ref o), .val (.long q0), .second, .val (.long q1), .second, .val (.long q2), .second, .val (.long q3), .second] [(.ref o)])) rfl (by rw [hml]; rfl) (Steps.refl _) (a := o) (argsL := []) (rest := []) (lenOf pd_0 rfl) rfl (by show 2 * 0 + _ ≤ _; exact Nat.le_of_eq rfl) (own_hb hby d1_1) (fun _ _ => ⟨rfl, e0, (by decide : 0 + 0 ≤ _), (by decide : 0 + 0 ≤ _)⟩)
  dsimp only [Pt.U, Pt.locs, Pt.cells, Pt.slots] at X2 l2 y2 z2 st2 hQ2
  subst l2 y2 z2
  obtain ⟨rfl, N2q, hh2⟩ := hQ2
  have N2 := Fr.app N0 N2q
  refine own_Go.of (S' := (T2.setTop (mkF m 4 #[.val (.ref o), .val (.long q0), .second, .val (.long q1), .second, .val (.long q2), .second, .val (.long q3), .second] []))) (fun t kt => st2.trans kt) ?_
  refine own_Go.of (S' := (T2.setTop (mkF m 6 #[.val (.ref o), .val (.long q0), .second, .val (.long q1), .second, .val (.long q2), .second, .val (.long q3), .second] [(.long q0), (.ref o)]))) (fun t kt => ?_) ?_
  · show Steps p.tables e below (T2.setTop (mkF m 4 #[.val (.ref o), .val (.long q0), .second, .val (.long q1), .second, .val (.long q2), .second, .val (.long q3), .second] [])) _
    refine XS.aloadN X2.here hx rfl (own_hb hby d1_4) rfl rfl ?_
    show Steps p.tables e below (T2.setTop (mkF m 5 #[.val (.ref o), .val (.long q0), .second, .val (.long q1), .second, .val (.long q2), .second, .val (.long q3), .second] [(.ref o)])) _
    refine XS.lloadN X2.here hx rfl (own_hb hby d1_5) rfl ?_
    exact kt
  obtain ⟨T3, h3, X3, e3, W3, st3⟩ := putF X2 hx hZ hown (host := "") (Or.inl (hw _ (List.mem_of_getElem? (i := 14) rfl))) Via.refl hh2 pr1 pr0 (Or.inr ⟨(hw _ (List.mem_of_getElem? (i := 15) rfl)), rfl, hnm⟩) (hw _ (List.mem_of_getElem? (i := 1) rfl)) (ty := .long) (by decide) rfl rfl (g := (mkF m 6 #[.val (.ref o), .val (.long q0), .second, .val (.long q1), .second, .val (.long q2), .second, .val (.long q3), .second] [(.long q0), (.ref o)])) rfl rfl (own_hb hby d1_6)
  refine own_Go.of (S' := (T3.setTop (mkF m 9 #[.val (.ref o), .val (.long q0), .second, .val (.long q1), .second, .val (.long q2), .second, .val (.long q3), .second] []))) st3 ?_
  have f4 : Exa Z h3 o "com/example/quayside/quayside/FileStamp" := pr0.wr W3
  have f5 : Fld Z h3 o "com/example/quayside/quayside/FileStamp" "inode" "J" u1 := pr2.other W3 (Or.inr (slot_ne (Or.inr (hw _ (List.mem_of_getElem? (i := 17) rfl))) (Or.inr (hw _ (List.mem_of_getElem? (i := 15) rfl))) (by decide) (t := .long) (t' := .long) (by decide) (by decide)))
  have f6 : Fld Z h3 o "com/example/quayside/quayside/FileStamp" "size" "J" u2 := pr3.other W3 (Or.inr (slot_ne (Or.inr (hw _ (List.mem_of_getElem? (i := 19) rfl))) (Or.inr (hw _ (List.mem_of_getElem? (i := 15) rfl))) (by decide) (t := .long) (t' := .long) (by decide) (by decide)))
  have f7 : Fld Z h3 o "com/example/quayside/quayside/FileStamp" "changed" "J" u3 := pr4.other W3 (Or.inr (slot_ne (Or.inr (hw _ (List.mem_of_getElem? (i := 21) rfl))) (Or.inr (hw _ (List.mem_of_getElem? (i := 15) rfl))) (by decide) (t := .long) (t' := .long) (by decide) (by decide)))
  have z8 : n0 ≤ h3.size := Nat.le_trans Z0 (Keep.of_wr W3).1
  have kp9 : Keep h0 h3 [o] := kp0.wr W3 (Or.inl (List.mem_of_getElem? (i := 0) rfl))
  have f10 : Fld Z h3 o "com/example/quayside/quayside/FileStamp" "device" "J" (.long q0) := pr1.same W3
  have N3 := Fr.snoc X3 N2 pr5
  refine own_Go.of (S' := (T3.setTop (mkF m 11 #[.val (.ref o), .val (.long q0), .second, .val (.long q1), .second, .val (.long q2), .second, .val (.long q3), .second] [(.long q1), (.ref o)]))) (fun t kt => ?_) ?_
  · show Steps p.tables e below (T3.setTop (mkF m 9 #[.val (.ref o), .val (.long q0), .second, .val (.long q1), .second, .val (.long q2), .second, .val (.long q3), .second] [])) _
    refine XS.aloadN X3.here hx rfl (own_hb hby d1_9) rfl rfl ?_
    show Steps p.tables e below (T3.setTop (mkF m 10 #[.val (.ref o), .val (.long q0), .second, .val (.long q1), .second, .val (.long q2), .second, .val (.long q3), .second] [(.ref o)])) _
    refine XS.lloadN X3.here hx rfl (own_hb hby d1_10) rfl ?_
    exact kt
  obtain ⟨T11, h11, X11, e11, W11, st11⟩ := putF X3 hx hZ hown (host := "") (Or.inl (hw _ (List.mem_of_getElem? (i := 16) rfl))) Via.refl e3 f5 f4 (Or.inr ⟨(hw _ (List.mem_of_getElem? (i := 17) rfl)), rfl, hnm⟩) (hw _ (List.mem_of_getElem? (i := 1) rfl)) (ty := .long) (by decide) rfl rfl (g := (mkF m 11 #[.val (.ref o), .val (.long q0), .second, .val (.long q1), .second, .val (.long q2), .second, .val (.long q3), .second] [(.long q1), (.ref o)])) rfl rfl (own_hb hby d1_11)
  refine own_Go.of (S' := (T11.setTop (mkF m 14 #[.val (.ref o), .val (.long q0), .second, .val (.long q1), .second, .val (.long q2), .second, .val (.long q3), .second] []))) st11 ?_
  have f12 : Exa Z h11 o "com/example/quayside/quayside/FileStamp" := f4.wr W11
  have f13 : Fld Z h11 o "com/example/quayside/quayside/FileStamp" "device" "J" (.long q0) := f10.other W11 (Or.inr (slot_ne (Or.inr (hw _ (List.mem_of_getElem? (i := 15) rfl))) (Or.inr (hw _ (List.mem_of_getElem? (i := 17) rfl))) (by decide) (t := .long) (t' := .long) (by decide) (by decide)))
  have f14 : Fld Z h11 o "com/example/quayside/quayside/FileStamp" "size" "J" u2 := f6.other W11 (Or.inr (slot_ne (Or.inr (hw _ (List.mem_of_getElem? (i := 19) rfl))) (Or.inr (hw _ (List.mem_of_getElem? (i := 17) rfl))) (by decide) (t := .long) (t' := .long) (by decide) (by decide)))
  have f15 : Fld Z h11 o "com/example/quayside/quayside/FileStamp" "changed" "J" u3 := f7.other W11 (Or.inr (slot_ne (Or.inr (hw _ (List.mem_of_getElem? (i := 21) rfl))) (Or.inr (hw _ (List.mem_of_getElem? (i := 17) rfl))) (by decide) (t := .long) (t' := .long) (by decide) (by decide)))
  have z16 : n0 ≤ h11.size := Nat.le_trans z8 (Keep.of_wr W11).1
  have kp17 : Keep h0 h11 [o] := kp9.wr W11 (Or.inl (List.mem_of_getElem? (i := 0) rfl))
  have f18 : Fld Z h11 o "com/example/quayside/quayside/FileStamp" "inode" "J" (.long q1) := f5.same W11
  have N11 := Fr.snoc X11 N3 pr5
  refine own_Go.of (S' := (T11.setTop (mkF m 17 #[.val (.ref o), .val (.long q0), .second, .val (.long q1), .second, .val (.long q2), .second, .val (.long q3), .second] [(.long q2), (.ref o)]))) (fun t kt => ?_) ?_
  · show Steps p.tables e below (T11.setTop (mkF m 14 #[.val (.ref o), .val (.long q0), .second, .val (.long q1), .second, .val (.long q2), .second, .val (.long q3), .second] [])) _
    refine XS.aloadN X11.here hx rfl (own_hb hby d1_14) rfl rfl ?_
    show Steps p.tables e below (T11.setTop (mkF m 15 #[.val (.ref o), .val (.long q0), .second, .val (.long q1), .second, .val (.long q2), .second, .val (.long q3), .second] [(.ref o)])) _
    refine XS.lload X11.here hx rfl (own_hb hby d1_15) rfl ?_
    exact kt
  obtain ⟨T19, h19, X19, e19, W19, st19⟩ := putF X11 hx hZ hown (host := "") (Or.inl (hw _ (List.mem_of_getElem? (i := 18) rfl))) Via.refl e11 f14 f12 (Or.inr ⟨(hw _ (List.mem_of_getElem? (i := 19) rfl)), rfl, hnm⟩) (hw _ (List.mem_of_getElem? (i := 1) rfl)) (ty := .long) (by decide) rfl rfl (g := (mkF m 17 #[.val (.ref o), .val (.long q0), .second, .val (.long q1), .second, .val (.long q2), .second, .val (.long q3), .second] [(.long q2), (.ref o)])) rfl rfl (own_hb hby d1_17)
  refine own_Go.of (S' := (T19.setTop (mkF m 20 #[.val (.ref o), .val (.long q0), .second, .val (.long q1), .second, .val (.long q2), .second, .val (.long q3), .second] []))) st19 ?_
  have f20 : Exa Z h19 o "com/example/quayside/quayside/FileStamp" := f12.wr W19
  have f21 : Fld Z h19 o "com/example/quayside/quayside/FileStamp" "device" "J" (.long q0) := f13.other W19 (Or.inr (slot_ne (Or.inr (hw _ (List.mem_of_getElem? (i := 15) rfl))) (Or.inr (hw _ (List.mem_of_getElem? (i := 19) rfl))) (by decide) (t := .long) (t' := .long) (by decide) (by decide)))
  have f22 : Fld Z h19 o "com/example/quayside/quayside/FileStamp" "inode" "J" (.long q1) := f18.other W19 (Or.inr (slot_ne (Or.inr (hw _ (List.mem_of_getElem? (i := 17) rfl))) (Or.inr (hw _ (List.mem_of_getElem? (i := 19) rfl))) (by decide) (t := .long) (t' := .long) (by decide) (by decide)))
  have f23 : Fld Z h19 o "com/example/quayside/quayside/FileStamp" "changed" "J" u3 := f15.other W19 (Or.inr (slot_ne (Or.inr (hw _ (List.mem_of_getElem? (i := 21) rfl))) (Or.inr (hw _ (List.mem_of_getElem? (i := 19) rfl))) (by decide) (t := .long) (t' := .long) (by decide) (by decide)))
  have z24 : n0 ≤ h19.size := Nat.le_trans z16 (Keep.of_wr W19).1
  have kp25 : Keep h0 h19 [o] := kp17.wr W19 (Or.inl (List.mem_of_getElem? (i := 0) rfl))
  have f26 : Fld Z h19 o "com/example/quayside/quayside/FileStamp" "size" "J" (.long q2) := f14.same W19
  have N19 := Fr.snoc X19 N11 pr5
  refine own_Go.of (S' := (T19.setTop (mkF m 23 #[.val (.ref o), .val (.long q0), .second, .val (.long q1), .second, .val (.long q2), .second, .val (.long q3), .second] [(.long q3), (.ref o)]))) (fun t kt => ?_) ?_
  · show Steps p.tables e below (T19.setTop (mkF m 20 #[.val (.ref o), .val (.long q0), .second, .val (.long q1), .second, .val (.long q2), .second, .val (.long q3), .second] [])) _
    refine XS.aloadN X19.here hx rfl (own_hb hby d1_20) rfl rfl ?_
    show Steps p.tables e below (T19.setTop (mkF m 21 #[.val (.ref o), .val (.long q0), .second, .val (.long q1), .second, .val (.long q2), .second, .val (.long q3), .second] [(.ref o)])) _
    refine XS.lload X19.here hx rfl (own_hb hby d1_21) rfl ?_
    exact kt
  obtain ⟨T27, h27, X27, e27, W27, st27⟩ := putF X19 hx hZ hown (host := "") (Or.inl (hw _ (List.mem_of_getElem? (i := 20) rfl))) Via.refl e19 f23 f20 (Or.inr ⟨(hw _ (List.mem_of_getElem? (i := 21) rfl)), rfl, hnm⟩) (hw _ (List.mem_of_getElem? (i := 1) rfl)) (ty := .long) (by decide) rfl rfl (g := (mkF m 23 #[.val (.ref o), .val (.long q0), .second, .val (.long q1), .second, .val (.long q2), .second, .val (.long q3), .second] [(.long q3), (.ref o)])) rfl rfl (own_hb hby d1_23)
  refine own_Go.of (S' := (T27.setTop (mkF m 26 #[.val (.ref o), .val (.long q0), .second, .val (.long q1), .second, .val (.long q2), .second, .val (.long q3), .second] []))) st27 ?_
  have f28 : Exa Z h27 o "com/example/quayside/quayside/FileStamp" := f20.wr W27
  have f29 : Fld Z h27 o "com/example/quayside/quayside/FileStamp" "device" "J" (.long q0) := f21.other W27 (Or.inr (slot_ne (Or.inr (hw _ (List.mem_of_getElem? (i := 15) rfl))) (Or.inr (hw _ (List.mem_of_getElem? (i := 21) rfl))) (by decide) (t := .long) (t' := .long) (by decide) (by decide)))
  have f30 : Fld Z h27 o "com/example/quayside/quayside/FileStamp" "inode" "J" (.long q1) := f22.other W27 (Or.inr (slot_ne (Or.inr (hw _ (List.mem_of_getElem? (i := 17) rfl))) (Or.inr (hw _ (List.mem_of_getElem? (i := 21) rfl))) (by decide) (t := .long) (t' := .long) (by decide) (by decide)))
  have f31 : Fld Z h27 o "com/example/quayside/quayside/FileStamp" "size" "J" (.long q2) := f26.other W27 (Or.inr (slot_ne (Or.inr (hw _ (List.mem_of_getElem? (i := 19) rfl))) (Or.inr (hw _ (List.mem_of_getElem? (i := 21) rfl))) (by decide) (t := .long) (t' := .long) (by decide) (by decide)))
  have z32 : n0 ≤ h27.size := Nat.le_trans z24 (Keep.of_wr W27).1
  have kp33 : Keep h0 h27 [o] := kp25.wr W27 (Or.inl (List.mem_of_getElem? (i := 0) rfl))
  have f34 : Fld Z h27 o "com/example/quayside/quayside/FileStamp" "changed" "J" (.long q3) := f23.same W27
  have N27 := Fr.snoc X27 N19 pr5
  exact own_retV X27 hx hlk hret (own_hb hby d1_26) e27 ⟨rfl, N27, kp33, f28, f29, f30, f31, f34⟩ (by decide) (by decide)
theorem d4_0 : decode prog_27_method_3_code 0 = .ok (.aload_n 1, 1) := by decide +kernel
theorem d4_1 : decode prog_27_method_3_code 1 = .ok (.instanceof 8, 3) := by decide +kernel
theorem d4_4 : decode prog_27_method_3_code 4 = .ok (.ifCond .eq 60, 3) := by decide +kernel
theorem d4_7 : decode prog_27_method_3_code 7 = .ok (.aload_n 1, 1) := by decide +kernel
theorem d4_8 : decode prog_27_method_3_code 8 = .ok (.checkcast 8, 3) := by decide +kernel
theorem d4_11 : decode prog_27_method_3_code 11 = .ok (.astore_n 2, 1) := by decide +kernel
theorem d4_12 : decode prog_27_method_3_code 12 = .ok (.aload_n 2, 1) := by decide +kernel
theorem d4_13 : decode prog_27_method_3_code 13 = .ok (.getfield 7, 3) := by decide +kernel
theorem d4_16 : decode prog_27_method_3_code 16 = .ok (.aload_n 0, 1) := by decide +kernel
theorem d4_17 : decode prog_27_method_3_code 17 = .ok (.getfield 7, 3) := by decide +kernel
theorem d4_20 : decode prog_27_method_3_code 20 = .ok (.lcmp, 1) := by decide +kernel
theorem d4_21 : decode prog_27_method_3_code 21 = .ok (.ifCond .ne 43, 3) := by decide +kernel
theorem d4_24 : decode prog_27_method_3_code 24 = .ok (.aload_n 2, 1) := by decide +kernel
theorem d4_25 : decode prog_27_method_3_code 25 = .ok (.getfield 13, 3) := by decide +kernel
theorem d4_28 : decode prog_27_method_3_code 28 = .ok (.aload_n 0, 1) := by decide +kernel
theorem d4_29 : decode prog_27_method_3_code 29 = .ok (.getfield 13, 3) := by decide +kernel
theorem d4_32 : decode prog_27_method_3_code 32 = .ok (.lcmp, 1) := by decide +kernel
theorem d4_33 : decode prog_27_method_3_code 33 = .ok (.ifCond .ne 31, 3) := by decide +kernel
theorem d4_36 : decode prog_27_method_3_code 36 = .ok (.aload_n 2, 1) := by decide +kernel
theorem d4_37 : decode prog_27_method_3_code 37 = .ok (.getfield 16, 3) := by decide +kernel
theorem d4_40 : decode prog_27_method_3_code 40 = .ok (.aload_n 0, 1) := by decide +kernel
theorem d4_41 : decode prog_27_method_3_code 41 = .ok (.getfield 16, 3) := by decide +kernel
theorem d4_44 : decode prog_27_method_3_code 44 = .ok (.lcmp, 1) := by decide +kernel
theorem d4_45 : decode prog_27_method_3_code 45 = .ok (.ifCond .ne 19, 3) := by decide +kernel
theorem d4_48 : decode prog_27_method_3_code 48 = .ok (.aload_n 2, 1) := by decide +kernel
theorem d4_49 : decode prog_27_method_3_code 49 = .ok (.getfield 19, 3) := by decide +kernel
theorem d4_52 : decode prog_27_method_3_code 52 = .ok (.aload_n 0, 1) := by decide +kernel
theorem d4_53 : decode prog_27_method_3_code 53 = .ok (.getfield 19, 3) := by decide +kernel
theorem d4_56 : decode prog_27_method_3_code 56 = .ok (.lcmp, 1) := by decide +kernel
theorem d4_57 : decode prog_27_method_3_code 57 = .ok (.ifCond .ne 7, 3) := by decide +kernel
theorem d4_60 : decode prog_27_method_3_code 60 = .ok (.iconst 1, 1) := by decide +kernel
theorem d4_61 : decode prog_27_method_3_code 61 = .ok (.goto 4, 3) := by decide +kernel
theorem d4_64 : decode prog_27_method_3_code 64 = .ok (.iconst 0, 1) := by decide +kernel
theorem d4_65 : decode prog_27_method_3_code 65 = .ok (.ireturn, 1) := by decide +kernel
theorem pn_4 : plainName "com/example/quayside/quayside/FileStamp" = true := by first | (simp [plainName, overriddenIn]; done) | decide +kernel
def Q_rm4n (Z : State) (o : Addr) (h0 : Heap) (n0 : Nat) (v : Option Value) (h : Heap) (L : List Loc) : Prop := v = some (.int (0 : Int32)) ∧ Fr n0 L ∧ h = h0
set_option maxRecDepth 65536 in
set_option maxHeartbeats 40000000 in
theorem rm4n (l : Launch) (Z : State) (a0 : Array Value) (hw : ∀ d ∈ tables_1, d.before a0 Z = true) (ws : List Jvm.Cond) (o : Addr) (h0 : Heap) (n0 : Nat) (Z0 : n0 ≤ h0.size)  :
    own_Met l Z h0 (⟨"com/example/quayside/quayside/FileStamp", "equals", "(Ljava/lang/Object;)Z"⟩ : MethodName) prog_27_method_3_code 3 (some .boolean) ws ({ frames := 0, cells := 0, slots := 0, locals := 0 } : Room) #[(.ref o), .null] (Q_rm4n Z o h0 n0) := by
  refine own_enter (plainFor_of_name pn_4) ?_
  intro p e s m below meth c T0 X0 hx hby hml hret hlk hown hnm hZ e0
  have N0 := Fr.nil n0
  rw [show entryFrame m #[(.ref o), .null] 3 = (mkF m 0 #[.val (.ref o), .val .null, .unset] []) from by first | (simp [entryFrame, mkF, argsToLocals, Value.category]; done) | rfl]
  refine own_Go.of (S' := (T0.setTop (mkF m 65 #[.val (.ref o), .val .null, .unset] [(.int (0 : Int32))]))) (fun t kt => ?_) ?_
  · show Steps p.tables e below (T0.setTop (mkF m 0 #[.val (.ref o), .val .null, .unset] [])) _
    refine XS.aloadN X0.here hx rfl (own_hb hby d4_0) rfl rfl ?_
    show Steps p.tables e below (T0.setTop (mkF m 1 #[.val (.ref o), .val .null, .unset] [.null])) _
    refine X0.instanceofNull hx (g := (mkF m 1 #[.val (.ref o), .val .null, .unset] [.null])) rfl rfl (own_hb hby d4_1) _ ?_
    show Steps p.tables e below (T0.setTop (mkF m 4 #[.val (.ref o), .val .null, .unset] [(.int (0 : Int32))])) _
    refine XS.ifYes X0.here hx rfl (pc0 := 4) (pc' := 64) rfl (own_hb hby d4_4) rfl ((if0 _ _).trans (teq (rfl : (0 : Int32) = (0 : Int32))).1) (by decide) (by decide) ?_
    show Steps p.tables e below (T0.setTop (mkF m 64 #[.val (.ref o), .val .null, .unset] [])) _
    refine XS.iconst X0.here hx rfl (own_hb hby d4_64) ?_
    exact kt
  exact own_retN X0 hx hlk (t := .boolean) hret (by simp) (own_hb hby d4_65) e0 ⟨rfl, N0, rfl⟩ (by decide) (by decide)
def Q_rm4l (Z : State) (o : Addr) (r : Addr) (h0 : Heap) (n0 : Nat) (v : Option Value) (h : Heap) (L : List Loc) : Prop := v = some (.int (0 : Int32)) ∧ Fr n0 L ∧ h = h0
set_option maxRecDepth 65536 in
set_option maxHeartbeats 40000000 in
theorem rm4l (l : Launch) (Z : State) (a0 : Array Value) (hw : ∀ d ∈ tables_1, d.before a0 Z = true) (ws : List Jvm.Cond) (o : Addr) (r : Addr) (h0 : Heap) (n0 : Nat) (Z0 : n0 ≤ h0.size) (pr0 : Exa Z h0 r "java/lang/Long") :
    own_Met l Z h0 (⟨"com/example/quayside/quayside/FileStamp", "equals", "(Ljava/lang/Object;)Z"⟩ : MethodName) prog_27_method_3_code 3 (some .boolean) ws ({ frames := 0, cells := 0, slots := 0, locals := 0 } : Room) #[(.ref o), (.ref r)] (Q_rm4l Z o r h0 n0) := by
  refine own_enter (plainFor_of_name pn_4) ?_
  intro p e s m below meth c T0 X0 hx hby hml hret hlk hown hnm hZ e0
  have N0 := Fr.nil n0
  rw [show entryFrame m #[(.ref o), (.ref r)] 3 = (mkF m 0 #[.val (.ref o), .val (.ref r), .unset] []) from by first | (simp [entryFrame, mkF, argsToLocals, Value.category]; done) | rfl]
  refine own_Go.of (S' := (T0.setTop (mkF m 1 #[.val (.ref o), .val (.ref r), .unset] [(.ref r)]))) (fun t kt => ?_) ?_
  · show Steps p.tables e below (T0.setTop (mkF m 0 #[.val (.ref o), .val (.ref r), .unset] [])) _
    refine XS.aloadN X0.here hx rfl (own_hb hby d4_0) rfl rfl ?_
    exact kt
  obtain ⟨T35, X35, e35, st35⟩ := instNo X0 hx hZ hown (hw _ (List.mem_of_getElem? (i := 27) rfl)) e0 pr0 (own_NSno (hw _ (List.mem_of_getElem? (i := 50) rfl)) (hw _ (List.mem_of_getElem? (i := 1) rfl)) (NS.step (hw _ (List.mem_of_getElem? (i := 50) rfl)) (NS.step (hw _ (List.mem_of_getElem? (i := 51) rfl)) (own_NSroot (hw _ (List.mem_of_getElem? (i := 52) rfl)) (hw _ (List.mem_of_getElem? (i := 1) rfl)) (by decide)) (by decide)) (by decide)) (by decide)) (g := (mkF m 1 #[.val (.ref o), .val (.ref r), .unset] [(.ref r)])) rfl rfl (own_hb hby d4_1)
  refine own_Go.of (S' := (T35.setTop (mkF m 4 #[.val (.ref o), .val (.ref r), .unset] [(.int (0 : Int32))]))) st35 ?_
  refine own_Go.of (S' := (T35.setTop (mkF m 65 #[.val (.ref o), .val (.ref r), .unset] [(.int (0 : Int32))]))) (fun t kt => ?_) ?_
  · show Steps p.tables e below (T35.setTop (mkF m 4 #[.val (.ref o), .val (.ref r), .unset] [(.int (0 : Int32))])) _
    refine XS.ifYes X35.here hx rfl (pc0 := 4) (pc' := 64) rfl (own_hb hby d4_4) rfl ((if0 _ _).trans (teq (rfl : (0 : Int32) = (0 : Int32))).1) (by decide) (by decide) ?_
    show Steps p.tables e below (T35.setTop (mkF m 64 #[.val (.ref o), .val (.ref r), .unset] [])) _
    refine XS.iconst X35.here hx rfl (own_hb hby d4_64) ?_
    exact kt
  exact own_retN X35 hx hlk (t := .boolean) hret (by simp) (own_hb hby d4_65) e35 ⟨rfl, N0, rfl⟩ (by decide) (by decide)
def Q_rm4 (Z : State) (o : Addr) (r : Addr) (w0 : Int64) (w1 : Int64) (w2 : Int64) (w3 : Int64) (x0 : Int64) (x1 : Int64) (x2 : Int64) (x3 : Int64) (h0 : Heap) (n0 : Nat) (v : Option Value) (h : Heap) (L : List Loc) : Prop := v = some (.int (own_eq4 x0 x1 x2 x3 w0 w1 w2 w3)) ∧ Fr n0 L ∧ h = h0
set_option maxRecDepth 65536 in
set_option maxHeartbeats 40000000 in
theorem rm4 (l : Launch) (Z : State) (a0 : Array Value) (hw : ∀ d ∈ tables_1, d.before a0 Z = true) (ws : List Jvm.Cond) (o : Addr) (r : Addr) (w0 : Int64) (w1 : Int64) (w2 : Int64) (w3 : Int64) (x0 : Int64) (x1 : Int64) (x2 : Int64) (x3 : Int64) (h0 : Heap) (n0 : Nat) (Z0 : n0 ≤ h0.size) (pr0 : Exa Z h0 r "com/example/quayside/quayside/FileStamp") (pr1 : Fld Z h0 o "com/example/quayside/quayside/FileStamp" "device" "J" (.long w0)) (pr2 : Fld Z h0 o "com/example/quayside/quayside/FileStamp" "inode" "J" (.long w1)) (pr3 : Fld Z h0 o "com/example/quayside/quayside/FileStamp" "size" "J" (.long w2)) (pr4 : Fld Z h0 o "com/example/quayside/quayside/FileStamp" "changed" "J" (.long w3)) (pr5 : Fld Z h0 r "com/example/quayside/quayside/FileStamp" "device" "J" (.long x0)) (pr6 : Fld Z h0 r "com/example/quayside/quayside/FileStamp" "inode" "J" (.long x1)) (pr7 : Fld Z h0 r "com/example/quayside/quayside/FileStamp" "size" "J" (.long x2)) (pr8 : Fld Z h0 r "com/example/quayside/quayside/FileStamp" "changed" "J" (.long x3)) :
    own_Met l Z h0 (⟨"com/example/quayside/quayside/FileStamp", "equals", "(Ljava/lang/Object;)Z"⟩ : MethodName) prog_27_method_3_code 3 (some .boolean) ws ({ frames := 0, cells := 0, slots := 0, locals := 0 } : Room) #[(.ref o), (.ref r)] (Q_rm4 Z o r w0 w1 w2 w3 x0 x1 x2 x3 h0 n0) := by
  refine own_enter (plainFor_of_name pn_4) ?_
  intro p e s m below meth c T0 X0 hx hby hml hret hlk hown hnm hZ e0
  have N0 := Fr.nil n0
  rw [show entryFrame m #[(.ref o), (.ref r)] 3 = (mkF m 0 #[.val (.ref o), .val (.ref r), .unset] []) from by first | (simp [entryFrame, mkF, argsToLocals, Value.category]; done) | rfl]
  refine own_Go.of (S' := (T0.setTop (mkF m 1 #[.val (.ref o), .val (.ref r), .unset] [(.ref r)]))) (fun t kt => ?_) ?_
  · show Steps p.tables e below (T0.setTop (mkF m 0 #[.val (.ref o), .val (.ref r), .unset] [])) _
    refine XS.aloadN X0.here hx rfl (own_hb hby d4_0) rfl rfl ?_
    exact kt
  obtain ⟨T36, X36, e36, st36⟩ := instY X0 hx hZ hown (hw _ (List.mem_of_getElem? (i := 27) rfl)) e0 (Ins.self pr0) (g := (mkF m 1 #[.val (.ref o), .val (.ref r), .unset] [(.ref r)])) rfl rfl (own_hb hby d4_1)
  refine own_Go.of (S' := (T36.setTop (mkF m 4 #[.val (.ref o), .val (.ref r), .unset] [(.int (1 : Int32))]))) st36 ?_
  refine own_Go.of (S' := (T36.setTop (mkF m 8 #[.val (.ref o), .val (.ref r), .unset] [(.ref r)]))) (fun t kt => ?_) ?_
  · show Steps p.tables e below (T36.setTop (mkF m 4 #[.val (.ref o), .val (.ref r), .unset] [(.int (1 : Int32))])) _
    refine XS.ifNo X36.here hx rfl (own_hb hby d4_4) rfl ((if0 _ _).trans (feq (by decide : ¬ ((1 : Int32) = (0 : Int32)))).1) ?_
    show Steps p.tables e below (T36.setTop (mkF m 7 #[.val (.ref o), .val (.ref r), .unset] [])) _
    refine XS.aloadN X36.here hx rfl (own_hb hby d4_7) rfl rfl ?_
    exact kt
  obtain ⟨T37, X37, e37, st37⟩ := castY X36 hx hZ hown (hw _ (List.mem_of_getElem? (i := 27) rfl)) e36 (Ins.self pr0) (g := (mkF m 8 #[.val (.ref o), .val (.ref r), .unset] [(.ref r)])) rfl rfl (own_hb hby d4_8)
  refine own_Go.of (S' := (T37.setTop (mkF m 11 #[.val (.ref o), .val (.ref r), .unset] [(.ref r)]))) st37 ?_
  refine own_Go.of (S' := (T37.setTop (mkF m 13 #[.val (.ref o), .val (.ref r), .val (.ref r)] [(.ref r)]))) (fun t kt => ?_) ?_
  · show Steps p.tables e below (T37.setTop (mkF m 11 #[.val (.ref o), .val (.ref r), .unset] [(.ref r)])) _
    refine XS.astoreN X37.here hx rfl (own_hb hby d4_11) rfl rfl (l' := #[.val (.ref o), .val (.ref r), .val (.ref r)]) rfl ?_
    show Steps p.tables e below (T37.setTop (mkF m 12 #[.val (.ref o), .val (.ref r), .val (.ref r)] [])) _
    refine XS.aloadN X37.here hx rfl (own_hb hby d4_12) rfl rfl ?_
    exact kt
  obtain ⟨T38, X38, e38, st38⟩ := getF X37 hx hZ hown (host := "") (Or.inl (hw _ (List.mem_of_getElem? (i := 14) rfl))) Via.refl e37 pr5 (g := (mkF m 13 #[.val (.ref o), .val (.ref r), .val (.ref r)] [(.ref r)])) rfl rfl (own_hb hby d4_13)
  refine own_Go.of (S' := (T38.setTop (mkF m 16 #[.val (.ref o), .val (.ref r), .val (.ref r)] [(.long x0)]))) st38 ?_
  refine own_Go.of (S' := (T38.setTop (mkF m 17 #[.val (.ref o), .val (.ref r), .val (.ref r)] [(.ref o), (.long x0)]))) (fun t kt => ?_) ?_
  · show Steps p.tables e below (T38.setTop (mkF m 16 #[.val (.ref o), .val (.ref r), .val (.ref r)] [(.long x0)])) _
    refine XS.aloadN X38.here hx rfl (own_hb hby d4_16) rfl rfl ?_
    exact kt
  obtain ⟨T39, X39, e39, st39⟩ := getF X38 hx hZ hown (host := "") (Or.inl (hw _ (List.mem_of_getElem? (i := 14) rfl))) Via.refl e38 pr1 (g := (mkF m 17 #[.val (.ref o), .val (.ref r), .val (.ref r)] [(.ref o), (.long x0)])) rfl rfl (own_hb hby d4_17)
  refine own_Go.of (S' := (T39.setTop (mkF m 20 #[.val (.ref o), .val (.ref r), .val (.ref r)] [(.long w0), (.long x0)]))) st39 ?_
  refine own_Go.of (S' := (T39.setTop (mkF m 21 #[.val (.ref o), .val (.ref r), .val (.ref r)] [(.int (lcmpW x0 w0))]))) (fun t kt => ?_) ?_
  · show Steps p.tables e below (T39.setTop (mkF m 20 #[.val (.ref o), .val (.ref r), .val (.ref r)] [(.long w0), (.long x0)])) _
    refine XS.lcmp X39.here hx rfl (own_hb hby d4_20) rfl ?_
    exact kt
  by_cases hc21_40 : x0 = w0
  · skip
    refine own_Go.of (S' := (T39.setTop (mkF m 25 #[.val (.ref o), .val (.ref r), .val (.ref r)] [(.ref r)]))) (fun t kt => ?_) ?_
    · show Steps p.tables e below (T39.setTop (mkF m 21 #[.val (.ref o), .val (.ref r), .val (.ref r)] [(.int (lcmpW x0 w0))])) _
      refine XS.ifNo X39.here hx rfl (own_hb hby d4_21) rfl ((if0 _ _).trans (teq ((lw_eq _ _).mpr hc21_40)).2) ?_
      show Steps p.tables e below (T39.setTop (mkF m 24 #[.val (.ref o), .val (.ref r), .val (.ref r)] [])) _
      refine XS.aloadN X39.here hx rfl (own_hb hby d4_24) rfl rfl ?_
      exact kt
    obtain ⟨T41, X41, e41, st41⟩ := getF X39 hx hZ hown (host := "") (Or.inl (hw _ (List.mem_of_getElem? (i := 16) rfl))) Via.refl e39 pr6 (g := (mkF m 25 #[.val (.ref o), .val (.ref r), .val (.ref r)] [(.ref r)])) rfl rfl (own_hb hby d4_25)
    refine own_Go.of (S' := (T41.setTop (mkF m 28 #[.val (.ref o), .val (.ref r), .val (.ref r)] [(.long x1)]))) st41 ?_
    refine own_Go.of (S' := (T41.setTop (mkF m 29 #[.val (.ref o), .val (.ref r), .val (.ref r)] [(.ref o), (.long x1)]))) (fun t kt => ?_) ?_
    · show Steps p.tables e below (T41.setTop (mkF m 28 #[.val (.ref o), .val (.ref r), .val (.ref r)] [(.long x1)])) _
      refine XS.aloadN X41.here hx rfl (own_hb hby d4_28) rfl rfl ?_
      exact kt
    obtain ⟨T42, X42, e42, st42⟩ := getF X41 hx hZ hown (host := "") (Or.inl (hw _ (List.mem_of_getElem? (i := 16) rfl))) Via.refl e41 pr2 (g := (mkF m 29 #[.val (.ref o), .val (.ref r), .val (.ref r)] [(.ref o), (.long x1)])) rfl rfl (own_hb hby d4_29)
    refine own_Go.of (S' := (T42.setTop (mkF m 32 #[.val (.ref o), .val (.ref r), .val (.ref r)] [(.long w1), (.long x1)]))) st42 ?_
    refine own_Go.of (S' := (T42.setTop (mkF m 33 #[.val (.ref o), .val (.ref r), .val (.ref r)] [(.int (lcmpW x1 w1))]))) (fun t kt => ?_) ?_
    · show Steps p.tables e below (T42.setTop (mkF m 32 #[.val (.ref o), .val (.ref r), .val (.ref r)] [(.long w1), (.long x1)])) _
      refine XS.lcmp X42.here hx rfl (own_hb hby d4_32) rfl ?_
      exact kt
    by_cases hc33_43 : x1 = w1
    · skip
      refine own_Go.of (S' := (T42.setTop (mkF m 37 #[.val (.ref o), .val (.ref r), .val (.ref r)] [(.ref r)]))) (fun t kt => ?_) ?_
      · show Steps p.tables e below (T42.setTop (mkF m 33 #[.val (.ref o), .val (.ref r), .val (.ref r)] [(.int (lcmpW x1 w1))])) _
        refine XS.ifNo X42.here hx rfl (own_hb hby d4_33) rfl ((if0 _ _).trans (teq ((lw_eq _ _).mpr hc33_43)).2) ?_
        show Steps p.tables e below (T42.setTop (mkF m 36 #[.val (.ref o), .val (.ref r), .val (.ref r)] [])) _
        refine XS.aloadN X42.here hx rfl (own_hb hby d4_36) rfl rfl ?_
        exact kt
      obtain ⟨T44, X44, e44, st44⟩ := getF X42 hx hZ hown (host := "") (Or.inl (hw _ (List.mem_of_getElem? (i := 18) rfl))) Via.refl e42 pr7 (g := (mkF m 37 #[.val (.ref o), .val (.ref r), .val (.ref r)] [(.ref r)])) rfl rfl (own_hb hby d4_37)
      refine own_Go.of (S' := (T44.setTop (mkF m 40 #[.val (.ref o), .val (.ref r), .val (.ref r)] [(.long x2)]))) st44 ?_
      refine own_Go.of (S' := (T44.setTop (mkF m 41 #[.val (.ref o), .val (.ref r), .val (.ref r)] [(.ref o), (.long x2)]))) (fun t kt => ?_) ?_
      · show Steps p.tables e below (T44.setTop (mkF m 40 #[.val (.ref o), .val (.ref r), .val (.ref r)] [(.long x2)])) _
        refine XS.aloadN X44.here hx rfl (own_hb hby d4_40) rfl rfl ?_
        exact kt
      obtain ⟨T45, X45, e45, st45⟩ := getF X44 hx hZ hown (host := "") (Or.inl (hw _ (List.mem_of_getElem? (i := 18) rfl))) Via.refl e44 pr3 (g := (mkF m 41 #[.val (.ref o), .val (.ref r), .val (.ref r)] [(.ref o), (.long x2)])) rfl rfl (own_hb hby d4_41)
      refine own_Go.of (S' := (T45.setTop (mkF m 44 #[.val (.ref o), .val (.ref r), .val (.ref r)] [(.long w2), (.long x2)]))) st45 ?_
      refine own_Go.of (S' := (T45.setTop (mkF m 45 #[.val (.ref o), .val (.ref r), .val (.ref r)] [(.int (lcmpW x2 w2))]))) (fun t kt => ?_) ?_
      · show Steps p.tables e below (T45.setTop (mkF m 44 #[.val (.ref o), .val (.ref r), .val (.ref r)] [(.long w2), (.long x2)])) _
        refine XS.lcmp X45.here hx rfl (own_hb hby d4_44) rfl ?_
        exact kt
      by_cases hc45_46 : x2 = w2
      · skip
        refine own_Go.of (S' := (T45.setTop (mkF m 49 #[.val (.ref o), .val (.ref r), .val (.ref r)] [(.ref r)]))) (fun t kt => ?_) ?_
        · show Steps p.tables e below (T45.setTop (mkF m 45 #[.val (.ref o), .val (.ref r), .val (.ref r)] [(.int (lcmpW x2 w2))])) _
          refine XS.ifNo X45.here hx rfl (own_hb hby d4_45) rfl ((if0 _ _).trans (teq ((lw_eq _ _).mpr hc45_46)).2) ?_
          show Steps p.tables e below (T45.setTop (mkF m 48 #[.val (.ref o), .val (.ref r), .val (.ref r)] [])) _
          refine XS.aloadN X45.here hx rfl (own_hb hby d4_48) rfl rfl ?_
          exact kt
        obtain ⟨T47, X47, e47, st47⟩ := getF X45 hx hZ hown (host := "") (Or.inl (hw _ (List.mem_of_getElem? (i := 20) rfl))) Via.refl e45 pr8 (g := (mkF m 49 #[.val (.ref o), .val (.ref r), .val (.ref r)] [(.ref r)])) rfl rfl (own_hb hby d4_49)
        refine own_Go.of (S' := (T47.setTop (mkF m 52 #[.val (.ref o), .val (.ref r), .val (.ref r)] [(.long x3)]))) st47 ?_
        refine own_Go.of (S' := (T47.setTop (mkF m 53 #[.val (.ref o), .val (.ref r), .val (.ref r)] [(.ref o), (.long x3)]))) (fun t kt => ?_) ?_
        · show Steps p.tables e below (T47.setTop (mkF m 52 #[.val (.ref o), .val (.ref r), .val (.ref r)] [(.long x3)])) _
          refine XS.aloadN X47.here hx rfl (own_hb hby d4_52) rfl rfl ?_
          exact kt
        obtain ⟨T48, X48, e48, st48⟩ := getF X47 hx hZ hown (host := "") (Or.inl (hw _ (List.mem_of_getElem? (i := 20) rfl))) Via.refl e47 pr4 (g := (mkF m 53 #[.val (.ref o), .val (.ref r), .val (.ref r)] [(.ref o), (.long x3)])) rfl rfl (own_hb hby d4_53)
        refine own_Go.of (S' := (T48.setTop (mkF m 56 #[.val (.ref o), .val (.ref r), .val (.ref r)] [(.long w3), (.long x3)]))) st48 ?_
        refine own_Go.of (S' := (T48.setTop (mkF m 57 #[.val (.ref o), .val (.ref r), .val (.ref r)] [(.int (lcmpW x3 w3))]))) (fun t kt => ?_) ?_
        · show Steps p.tables e below (T48.setTop (mkF m 56 #[.val (.ref o), .val (.ref r), .val (.ref r)] [(.long w3), (.long x3)])) _
          refine XS.lcmp X48.here hx rfl (own_hb hby d4_56) rfl ?_
          exact kt
        by_cases hc57_49 : x3 = w3
        · skip
          refine own_Go.of (S' := (T48.setTop (mkF m 65 #[.val (.ref o), .val (.ref r), .val (.ref r)] [(.int (1 : Int32))]))) (fun t kt => ?_) ?_
          · show Steps p.tables e below (T48.setTop (mkF m 57 #[.val (.ref o), .val (.ref r), .val (.ref r)] [(.int (lcmpW x3 w3))])) _
            refine XS.ifNo X48.here hx rfl (own_hb hby d4_57) rfl ((if0 _ _).trans (teq ((lw_eq _ _).mpr hc57_49)).2) ?_
            show Steps p.tables e below (T48.setTop (mkF m 60 #[.val (.ref o), .val (.ref r), .val (.ref r)] [])) _
            refine XS.iconst X48.here hx rfl (own_hb hby d4_60) ?_
            show Steps p.tables e below (T48.setTop (mkF m 61 #[.val (.ref o), .val (.ref r), .val (.ref r)] [(.int (1 : Int32))])) _
            refine XS.goto X48.here hx rfl (pc0 := 61) (pc' := 65) rfl (own_hb hby d4_61) (by decide) (by decide) ?_
            exact kt
          exact own_retN X48 hx hlk (t := .boolean) hret (by simp) (own_hb hby d4_65) e48 ⟨by unfold own_eq4; rw [if_pos ⟨hc21_40, hc33_43, hc45_46, hc57_49⟩]; rfl, N0, rfl⟩ (by decide) (by decide)
        · skip
          refine own_Go.of (S' := (T48.setTop (mkF m 65 #[.val (.ref o), .val (.ref r), .val (.ref r)] [(.int (0 : Int32))]))) (fun t kt => ?_) ?_
          · show Steps p.tables e below (T48.setTop (mkF m 57 #[.val (.ref o), .val (.ref r), .val (.ref r)] [(.int (lcmpW x3 w3))])) _
            refine XS.ifYes X48.here hx rfl (pc0 := 57) (pc' := 64) rfl (own_hb hby d4_57) rfl ((if0 _ _).trans (feq (fun q => hc57_49 ((lw_eq _ _).mp q))).2) (by decide) (by decide) ?_
            show Steps p.tables e below (T48.setTop (mkF m 64 #[.val (.ref o), .val (.ref r), .val (.ref r)] [])) _
            refine XS.iconst X48.here hx rfl (own_hb hby d4_64) ?_
            exact kt
          exact own_retN X48 hx hlk (t := .boolean) hret (by simp) (own_hb hby d4_65) e48 ⟨by unfold own_eq4; rw [if_neg (fun q => hc57_49 q.2.2.2)]; rfl, N0, rfl⟩ (by decide) (by decide)
      · skip
        refine own_Go.of (S' := (T45.setTop (mkF m 65 #[.val (.ref o), .val (.ref r), .val (.ref r)] [(.int (0 : Int32))]))) (fun t kt => ?_) ?_
        · show Steps p.tables e below (T45.setTop (mkF m 45 #[.val (.ref o), .val (.ref r), .val (.ref r)] [(.int (lcmpW x2 w2))])) _
          refine XS.ifYes X45.here hx rfl (pc0 := 45) (pc' := 64) rfl (own_hb hby d4_45) rfl ((if0 _ _).trans (feq (fun q => hc45_46 ((lw_eq _ _).mp q))).2) (by decide) (by decide) ?_
          show Steps p.tables e below (T45.setTop (mkF m 64 #[.val (.ref o), .val (.ref r), .val (.ref r)] [])) _
          refine XS.iconst X45.here hx rfl (own_hb hby d4_64) ?_
          exact kt
        exact own_retN X45 hx hlk (t := .boolean) hret (by simp) (own_hb hby d4_65) e45 ⟨by unfold own_eq4; rw [if_neg (fun q => hc45_46 q.2.2.1)]; rfl, N0, rfl⟩ (by decide) (by decide)
    · skip
      refine own_Go.of (S' := (T42.setTop (mkF m 65 #[.val (.ref o), .val (.ref r), .val (.ref r)] [(.int (0 : Int32))]))) (fun t kt => ?_) ?_
      · show Steps p.tables e below (T42.setTop (mkF m 33 #[.val (.ref o), .val (.ref r), .val (.ref r)] [(.int (lcmpW x1 w1))])) _
        refine XS.ifYes X42.here hx rfl (pc0 := 33) (pc' := 64) rfl (own_hb hby d4_33) rfl ((if0 _ _).trans (feq (fun q => hc33_43 ((lw_eq _ _).mp q))).2) (by decide) (by decide) ?_
        show Steps p.tables e below (T42.setTop (mkF m 64 #[.val (.ref o), .val (.ref r), .val (.ref r)] [])) _
        refine XS.iconst X42.here hx rfl (own_hb hby d4_64) ?_
        exact kt
      exact own_retN X42 hx hlk (t := .boolean) hret (by simp) (own_hb hby d4_65) e42 ⟨by unfold own_eq4; rw [if_neg (fun q => hc33_43 q.2.1)]; rfl, N0, rfl⟩ (by decide) (by decide)
  · skip
    refine own_Go.of (S' := (T39.setTop (mkF m 65 #[.val (.ref o), .val (.ref r), .val (.ref r)] [(.int (0 : Int32))]))) (fun t kt => ?_) ?_
    · show Steps p.tables e below (T39.setTop (mkF m 21 #[.val (.ref o), .val (.ref r), .val (.ref r)] [(.int (lcmpW x0 w0))])) _
      refine XS.ifYes X39.here hx rfl (pc0 := 21) (pc' := 64) rfl (own_hb hby d4_21) rfl ((if0 _ _).trans (feq (fun q => hc21_40 ((lw_eq _ _).mp q))).2) (by decide) (by decide) ?_
      show Steps p.tables e below (T39.setTop (mkF m 64 #[.val (.ref o), .val (.ref r), .val (.ref r)] [])) _
      refine XS.iconst X39.here hx rfl (own_hb hby d4_64) ?_
      exact kt
    exact own_retN X39 hx hlk (t := .boolean) hret (by simp) (own_hb hby d4_65) e39 ⟨by unfold own_eq4; rw [if_neg (fun q => hc21_40 q.1)]; rfl, N0, rfl⟩ (by decide) (by decide)
theorem d7_0 : decode jdk_18_method_1_code 0 = .ok (.aload_n 0, 1) := by decide +kernel
theorem d7_1 : decode jdk_18_method_1_code 1 = .ok (.invokespecial 1, 3) := by decide +kernel
theorem d7_4 : decode jdk_18_method_1_code 4 = .ok (.return_, 1) := by decide +kernel
theorem pn_7 : plainName "java/lang/Number" = true := by first | (simp [plainName, overriddenIn]; done) | decide +kernel
def Q_rm7 (Z : State) (o : Addr) (h0 : Heap) (n0 : Nat) (v : Option Value) (h : Heap) (L : List Loc) : Prop := v = none ∧ Fr n0 L ∧ h = h0
set_option maxRecDepth 65536 in
set_option maxHeartbeats 40000000 in
theorem rm7 (l : Launch) (Z : State) (a0 : Array Value) (hw : ∀ d ∈ tables_1, d.before a0 Z = true) (ws : List Jvm.Cond) (o : Addr) (h0 : Heap) (n0 : Nat) (Z0 : n0 ≤ h0.size)  :
    own_Met l Z h0 (⟨"java/lang/Number", "<init>", "()V"⟩ : MethodName) jdk_18_method_1_code 1 none ws ({ frames := 1, cells := 0, slots := 0, locals := 12 } : Room) #[(.ref o)] (Q_rm7 Z o h0 n0) := by
  refine own_enter (plainFor_of_name pn_7) ?_
  intro p e s m below meth c T0 X0 hx hby hml hret hlk hown hnm hZ e0
  have N0 := Fr.nil n0
  rw [show entryFrame m #[(.ref o)] 1 = (mkF m 0 #[.val (.ref o)] []) from by first | (simp [entryFrame, mkF, argsToLocals, Value.category]; done) | rfl]
  refine own_Go.of (S' := (T0.setTop (mkF m 1 #[.val (.ref o)] [(.ref o)]))) (fun t kt => ?_) ?_
  · show Steps p.tables e below (T0.setTop (mkF m 0 #[.val (.ref o)] [])) _
    refine XS.aloadN X0.here hx rfl (own_hb hby d7_0) rfl rfl ?_
    exact kt
  obtain ⟨T50, X50, e50, st50⟩ := initO X0 hx hZ hown (hw _ (List.mem_of_getElem? (i := 47) rfl)) (hw _ (List.mem_of_getElem? (i := 12) rfl)) (hw _ (List.mem_of_getElem? (i := 13) rfl)) e0 (g := (mkF m 1 #[.val (.ref o)] [(.ref o)])) rfl (by rw [hml]; rfl) rfl (own_hb hby d7_1) (by decide) (W := 0) (by show 2 * 0 + _ ≤ _; exact Nat.le_of_eq rfl) (by decide)
  refine own_Go.of (S' := (T50.setTop (mkF m 4 #[.val (.ref o)] []))) st50 ?_
  exact own_retV X50 hx hlk hret (own_hb hby d7_4) e50 ⟨rfl, N0, rfl⟩ (by decide) (by decide)
theorem d6_0 : decode jdk_35_method_26_code 0 = .ok (.aload_n 0, 1) := by decide +kernel
theorem d6_1 : decode jdk_35_method_26_code 1 = .ok (.invokespecial 270, 3) := by decide +kernel
theorem d6_4 : decode jdk_35_method_26_code 4 = .ok (.aload_n 0, 1) := by decide +kernel
theorem d6_5 : decode jdk_35_method_26_code 5 = .ok (.lload_n 1, 1) := by decide +kernel
theorem d6_6 : decode jdk_35_method_26_code 6 = .ok (.putfield 273, 3) := by decide +kernel
theorem d6_9 : decode jdk_35_method_26_code 9 = .ok (.return_, 1) := by decide +kernel
theorem pn_6 : plainName "java/lang/Long" = true := by first | (simp [plainName, overriddenIn]; done) | decide +kernel
def Q_rm6 (Z : State) (o : Addr) (q : Int64) (u : Value) (h0 : Heap) (n0 : Nat) (v : Option Value) (h : Heap) (L : List Loc) : Prop := v = none ∧ Fr n0 L ∧ Keep h0 h [o] ∧ (Exa Z h o "java/lang/Long") ∧ (Fld Z h o "java/lang/Long" "value" "J" (.long q))
set_option maxRecDepth 65536 in
set_option maxHeartbeats 40000000 in
theorem rm6 (l : Launch) (Z : State) (a0 : Array Value) (hw : ∀ d ∈ tables_1, d.before a0 Z = true) (ws : List Jvm.Cond) (o : Addr) (q : Int64) (u : Value) (h0 : Heap) (n0 : Nat) (Z0 : n0 ≤ h0.size) (pr0 : Exa Z h0 o "java/lang/Long") (pr1 : Fld Z h0 o "java/lang/Long" "value" "J" u) (pr2 : n0 ≤ o) :
    own_Met l Z h0 (⟨"java/lang/Long", "<init>", "(J)V"⟩ : MethodName) jdk_35_method_26_code 3 none ws ({ frames := 2, cells := 0, slots := 0, locals := 24 } : Room) #[(.ref o), (.long q)] (Q_rm6 Z o q u h0 n0) := by
  refine own_enter (plainFor_of_name pn_6) ?_
  intro p e s m below meth c T0 X0 hx hby hml hret hlk hown hnm hZ e0
  have N0 := Fr.nil n0
  have kp0 : Keep h0 h0 [o] := Keep.refl h0 _
  rw [show entryFrame m #[(.ref o), (.long q)] 3 = (mkF m 0 #[.val (.ref o), .val (.long q), .second] []) from by first | (simp [entryFrame, mkF, argsToLocals, Value.category]; done) | rfl]
  refine own_Go.of (S' := (T0.setTop (mkF m 1 #[.val (.ref o), .val (.long q), .second] [(.ref o)]))) (fun t kt => ?_) ?_
  · show Steps p.tables e below (T0.setTop (mkF m 0 #[.val (.ref o), .val (.long q), .second] [])) _
    refine XS.aloadN X0.here hx rfl (own_hb hby d6_0) rfl rfl ?_
    exact kt
  obtain ⟨_, _, ⟨T51, L51, k51, n51⟩, -, X51, ⟨Lc51, hQ51, l51, y51, z51⟩, st51⟩ := X0.specialBack hx (y := (⟨"java/lang/Number", "<init>", "()V"⟩ : MethodName)) rfl hown (mvT hZ (hw _ (List.mem_of_getElem? (i := 41) rfl))) (mvT hZ (hw _ (List.mem_of_getElem? (i := 42) rfl))) (mvT hZ (hw _ (List.mem_of_getElem? (i := 46) rfl))) (by decide) (backOf (W := 0) (rm7 l Z a0 hw [] o h0 n0 Z0 ) hZ (hw _ (List.mem_of_getElem? (i := 46) rfl)) (hw _ (List.mem_of_getElem? (i := 45) rfl)) (by decide) (by decide)) (g := (mkF m 1 #[.val (.ref o), .val (.long q), .second] [(.ref o)])) rfl (by rw [hml]; rfl) (Steps.refl _) (a := o) (argsL := []) (rest := []) (lenOf pd_0 rfl) rfl (by show 2 * 0 + _ ≤ _; exact Nat.le_of_eq rfl) (own_hb hby d6_1) (fun _ _ => ⟨rfl, e0, (by decide : 0 + 0 ≤ _), (by decide : 0 + 0 ≤ _)⟩)
  dsimp only [Pt.U, Pt.locs, Pt.cells, Pt.slots] at X51 l51 y51 z51 st51 hQ51
  subst l51 y51 z51
  obtain ⟨rfl, N51q, hh51⟩ := hQ51
  have N51 := Fr.app N0 N51q
  refine own_Go.of (S' := (T51.setTop (mkF m 4 #[.val (.ref o), .val (.long q), .second] []))) (fun t kt => st51.trans kt) ?_
  refine own_Go.of (S' := (T51.setTop (mkF m 6 #[.val (.ref o), .val (.long q), .second] [(.long q), (.ref o)]))) (fun t kt => ?_) ?_
  · show Steps p.tables e below (T51.setTop (mkF m 4 #[.val (.ref o), .val (.long q), .second] [])) _
    refine XS.aloadN X51.here hx rfl (own_hb hby d6_4) rfl rfl ?_
    show Steps p.tables e below (T51.setTop (mkF m 5 #[.val (.ref o), .val (.long q), .second] [(.ref o)])) _
    refine XS.lloadN X51.here hx rfl (own_hb hby d6_5) rfl ?_
    exact kt
  obtain ⟨T52, h52, X52, e52, W52, st52⟩ := putF X51 hx hZ hown (host := "") (Or.inl (hw _ (List.mem_of_getElem? (i := 48) rfl))) Via.refl hh51 pr1 pr0 (Or.inr ⟨(hw _ (List.mem_of_getElem? (i := 49) rfl)), rfl, hnm⟩) (hw _ (List.mem_of_getElem? (i := 36) rfl)) (ty := .long) (by decide) rfl rfl (g := (mkF m 6 #[.val (.ref o), .val (.long q), .second] [(.long q), (.ref o)])) rfl rfl (own_hb hby d6_6)
  refine own_Go.of (S' := (T52.setTop (mkF m 9 #[.val (.ref o), .val (.long q), .second] []))) st52 ?_
  have f53 : Exa Z h52 o "java/lang/Long" := pr0.wr W52
  have z54 : n0 ≤ h52.size := Nat.le_trans Z0 (Keep.of_wr W52).1
  have kp55 : Keep h0 h52 [o] := kp0.wr W52 (Or.inl (List.mem_of_getElem? (i := 0) rfl))
  have f56 : Fld Z h52 o "java/lang/Long" "value" "J" (.long q) := pr1.same W52
  have N52 := Fr.snoc X52 N51 pr2
  exact own_retV X52 hx hlk hret (own_hb hby d6_9) e52 ⟨rfl, N52, kp55, f53, f56⟩ (by decide) (by decide)

theorem own_cidx {q : Int64} (h1 : ¬ (q < (-128 : Int64))) (h2 : ¬ ((127 : Int64) < q)) : ∃ i : Nat, i < 256 ∧ q.toInt32 + (128 : Int32) = Int32.ofNat i := by
  rw [Int64.lt_iff_toInt_lt] at h1 h2
  have e1 : (-128 : Int64).toInt = -128 := rfl
  have e2 : (127 : Int64).toInt = 127 := rfl
  rw [e1] at h1; rw [e2] at h2
  refine ⟨(q.toInt + 128).toNat, by omega, ?_⟩
  apply Int32.toInt_inj.mp
  have e3 : (128 : Int32).toInt = 128 := rfl
  rw [Int32.toInt_add, Int64.toInt_toInt32, e3, own_toInt (by omega), Int.bmod_eq_of_le (n := q.toInt) (by omega) (by omega), Int.bmod_eq_of_le (by omega) (by omega)]
  omega
theorem d5_0 : decode jdk_35_method_24_code 0 = .ok (.sipush 128, 3) := by decide +kernel
theorem d5_3 : decode jdk_35_method_24_code 3 = .ok (.istore_n 2, 1) := by decide +kernel
theorem d5_4 : decode jdk_35_method_24_code 4 = .ok (.lload_n 0, 1) := by decide +kernel
theorem d5_5 : decode jdk_35_method_24_code 5 = .ok (.ldc2_w 230, 3) := by decide +kernel
theorem d5_8 : decode jdk_35_method_24_code 8 = .ok (.lcmp, 1) := by decide +kernel
theorem d5_9 : decode jdk_35_method_24_code 9 = .ok (.ifCond .lt 22, 3) := by decide +kernel
theorem d5_12 : decode jdk_35_method_24_code 12 = .ok (.lload_n 0, 1) := by decide +kernel
theorem d5_13 : decode jdk_35_method_24_code 13 = .ok (.ldc2_w 232, 3) := by decide +kernel
theorem d5_16 : decode jdk_35_method_24_code 16 = .ok (.lcmp, 1) := by decide +kernel
theorem d5_17 : decode jdk_35_method_24_code 17 = .ok (.ifCond .gt 14, 3) := by decide +kernel
theorem d5_20 : decode jdk_35_method_24_code 20 = .ok (.getstatic 234, 3) := by decide +kernel
theorem d5_23 : decode jdk_35_method_24_code 23 = .ok (.lload_n 0, 1) := by decide +kernel
theorem d5_24 : decode jdk_35_method_24_code 24 = .ok (.l2i, 1) := by decide +kernel
theorem d5_25 : decode jdk_35_method_24_code 25 = .ok (.sipush 128, 3) := by decide +kernel
theorem d5_28 : decode jdk_35_method_24_code 28 = .ok (.iadd, 1) := by decide +kernel
theorem d5_29 : decode jdk_35_method_24_code 29 = .ok (.aaload, 1) := by decide +kernel
theorem d5_30 : decode jdk_35_method_24_code 30 = .ok (.areturn, 1) := by decide +kernel
theorem d5_31 : decode jdk_35_method_24_code 31 = .ok (.new 1, 3) := by decide +kernel
theorem d5_34 : decode jdk_35_method_24_code 34 = .ok (.dup, 1) := by decide +kernel
theorem d5_35 : decode jdk_35_method_24_code 35 = .ok (.lload_n 0, 1) := by decide +kernel
theorem d5_36 : decode jdk_35_method_24_code 36 = .ok (.invokespecial 240, 3) := by decide +kernel
theorem d5_39 : decode jdk_35_method_24_code 39 = .ok (.areturn, 1) := by decide +kernel
theorem pn_5 : plainName "java/lang/Long" = true := by first | (simp [plainName, overriddenIn]; done) | decide +kernel
theorem pd_1 : parseMethodDescriptor "(J)V" = some ⟨[.long], none⟩ := by decide +kernel
def Q_rm5 (Z : State) (q : Int64) (rc : Addr) (fc : Nat → Value) (h0 : Heap) (n0 : Nat) (v : Option Value) (h : Heap) (L : List Loc) : Prop := ∃ r : Addr, v = some (.ref r) ∧ Fr n0 L ∧ Keep h0 h [] ∧ (Exa Z h r "java/lang/Long")
set_option maxRecDepth 65536 in
set_option maxHeartbeats 40000000 in
theorem rm5 (l : Launch) (Z : State) (a0 : Array Value) (hw : ∀ d ∈ tables_1, d.before a0 Z = true) (ws : List Jvm.Cond) (q : Int64) (rc : Addr) (fc : Nat → Value) (h0 : Heap) (n0 : Nat) (Z0 : n0 ≤ h0.size) (pr0 : Sta Z h0 "java/lang/Long$LongCache" "cache" "[Ljava/lang/Long;" (.ref rc)) (pr1 : own_Ar Z h0 rc (.object "java/lang/Long") 256 fc) (hca : ∀ i, i < 256 → ∃ b : Addr, fc i = .ref b ∧ Exa Z h0 b "java/lang/Long") :
    own_Met l Z h0 (⟨"java/lang/Long", "valueOf", "(J)Ljava/lang/Long;"⟩ : MethodName) jdk_35_method_24_code 3 (some (.object "java/lang/Long")) ws ({ frames := 3, cells := 1, slots := 1, locals := 39 } : Room) #[(.long q)] (Q_rm5 Z q rc fc h0 n0) := by
  refine own_enter (plainFor_of_name pn_5) ?_
  intro p e s m below meth c T0 X0 hx hby hml hret hlk hown hnm hZ e0
  have N0 := Fr.nil n0
  have kp0 : Keep h0 h0 [] := Keep.refl h0 _
  rw [show entryFrame m #[(.long q)] 3 = (mkF m 0 #[.val (.long q), .second, .unset] []) from by first | (simp [entryFrame, mkF, argsToLocals, Value.category]; done) | rfl]
  refine own_Go.of (S' := (T0.setTop (mkF m 9 #[.val (.long q), .second, .val (.int (128 : Int32))] [(.int (lcmpW q (-128 : Int64)))]))) (fun t kt => ?_) ?_
  · show Steps p.tables e below (T0.setTop (mkF m 0 #[.val (.long q), .second, .unset] [])) _
    refine XS.sipush X0.here hx rfl (own_hb hby d5_0) ?_
    show Steps p.tables e below (T0.setTop (mkF m 3 #[.val (.long q), .second, .unset] [(.int (128 : Int32))])) _
    refine XS.istoreN X0.here hx rfl (own_hb hby d5_3) rfl (l' := #[.val (.long q), .second, .val (.int (128 : Int32))]) rfl ?_
    show Steps p.tables e below (T0.setTop (mkF m 4 #[.val (.long q), .second, .val (.int (128 : Int32))] [])) _
    refine XS.lloadN X0.here hx rfl (own_hb hby d5_4) rfl ?_
    show Steps p.tables e below (T0.setTop (mkF m 5 #[.val (.long q), .second, .val (.int (128 : Int32))] [(.long q)])) _
    refine X0.ldc2Long hx hown (mvT hZ (hw _ (List.mem_of_getElem? (i := 33) rfl))) (g := (mkF m 5 #[.val (.long q), .second, .val (.int (128 : Int32))] [(.long q)])) rfl (own_hb hby d5_5) _ ?_
    show Steps p.tables e below (T0.setTop (mkF m 8 #[.val (.long q), .second, .val (.int (128 : Int32))] [(.long (-128 : Int64)), (.long q)])) _
    refine XS.lcmp X0.here hx rfl (own_hb hby d5_8) rfl ?_
    exact kt
  by_cases hc9_57 : q < (-128 : Int64)
  · skip
    refine own_Go.of (S' := (T0.setTop (mkF m 31 #[.val (.long q), .second, .val (.int (128 : Int32))] []))) (fun t kt => ?_) ?_
    · show Steps p.tables e below (T0.setTop (mkF m 9 #[.val (.long q), .second, .val (.int (128 : Int32))] [(.int (lcmpW q (-128 : Int64)))])) _
      refine XS.ifYes X0.here hx rfl (pc0 := 9) (pc' := 31) rfl (own_hb hby d5_9) rfl ((if0 _ _).trans (tlt ((lw_lt _ _).mpr hc9_57)).1) (by decide) (by decide) ?_
      exact kt
    obtain ⟨T58, h58, X58, e58, E58, A58, D58, -, st58⟩ := newO X0 hx hZ hown (hw _ (List.mem_of_getElem? (i := 35) rfl)) (hw _ (List.mem_of_getElem? (i := 36) rfl)) (hw _ (List.mem_of_getElem? (i := 31) rfl)) e0 (g := (mkF m 31 #[.val (.long q), .second, .val (.int (128 : Int32))] [])) rfl (own_hb hby d5_31) (by decide) (by decide)
    obtain ⟨b58, g58⟩ : ∃ z, z = h0.size := ⟨_, rfl⟩
    rw [← g58] at A58 D58 st58
    have gx58 : n0 ≤ b58 := Nat.le_trans Z0 (Nat.le_of_eq g58.symm)
    have ne59 : rc ≠ b58 := Nat.ne_of_lt (Nat.lt_of_lt_of_le pr1.lt (Nat.le_of_eq g58.symm))
    have sz58 : h0.size ≤ b58 := Nat.le_trans kp0.1 (Nat.le_of_eq g58.symm)
    refine own_Go.of (S' := (T58.setTop (mkF m 34 #[.val (.long q), .second, .val (.int (128 : Int32))] [(.ref b58)]))) st58 ?_
    have f60 : Sta Z h58 "java/lang/Long$LongCache" "cache" "[Ljava/lang/Long;" (.ref rc) := pr0.ext E58
    have f61 : own_Ar Z h58 rc (.object "java/lang/Long") 256 fc := pr1.ext E58
    have z62 : n0 ≤ h58.size := Nat.le_trans Z0 E58.1
    have kp63 : Keep h0 h58 [] := kp0.ext E58
    have f64 : Fld Z h58 b58 "java/lang/Long" "value" "J" (.long (0 : Int64)) := D58 (Or.inr (hw _ (List.mem_of_getElem? (i := 49) rfl))) (ty := .long) (by decide)
    refine own_Go.of (S' := (T58.setTop (mkF m 36 #[.val (.long q), .second, .val (.int (128 : Int32))] [(.long q), (.ref b58), (.ref b58)]))) (fun t kt => ?_) ?_
    · show Steps p.tables e below (T58.setTop (mkF m 34 #[.val (.long q), .second, .val (.int (128 : Int32))] [(.ref b58)])) _
      refine XS.dup X58.here hx rfl (own_hb hby d5_34) rfl rfl ?_
      show Steps p.tables e below (T58.setTop (mkF m 35 #[.val (.long q), .second, .val (.int (128 : Int32))] [(.ref b58), (.ref b58)])) _
      refine XS.lloadN X58.here hx rfl (own_hb hby d5_35) rfl ?_
      exact kt
    obtain ⟨_, _, ⟨T65, L65, k65, n65⟩, -, X65, ⟨Lc65, hQ65, l65, y65, z65⟩, st65⟩ := X58.specialBack hx (y := (⟨"java/lang/Long", "<init>", "(J)V"⟩ : MethodName)) rfl hown (mvT hZ (hw _ (List.mem_of_getElem? (i := 37) rfl))) (mvT hZ (hw _ (List.mem_of_getElem? (i := 38) rfl))) (mvT hZ (hw _ (List.mem_of_getElem? (i := 40) rfl))) (by decide) (backOf (W := 1) (rm6 l Z a0 hw [] b58 q (.long (0 : Int64)) h58 n0 z62 A58 f64 gx58) hZ (hw _ (List.mem_of_getElem? (i := 40) rfl)) (hw _ (List.mem_of_getElem? (i := 31) rfl)) (by decide) (by decide)) (g := (mkF m 36 #[.val (.long q), .second, .val (.int (128 : Int32))] [(.long q), (.ref b58), (.ref b58)])) rfl (by rw [hml]; rfl) (Steps.refl _) (a := b58) (argsL := [(.long q)]) (rest := [(.ref b58)]) (lenOf pd_1 rfl) rfl (by show 2 * 0 + _ ≤ _; exact Nat.le_of_eq rfl) (own_hb hby d5_36) (fun _ _ => ⟨rfl, e58, (by decide : 1 + 0 ≤ _), (by decide : 1 + 0 ≤ _)⟩)
    dsimp only [Pt.U, Pt.locs, Pt.cells, Pt.slots] at X65 l65 y65 z65 st65 hQ65
    subst l65 y65 z65
    obtain ⟨rfl, N65q, K65, p65_0, p65_1⟩ := hQ65
    have N65 := Fr.app N0 N65q
    refine own_Go.of (S' := (T65.setTop (mkF m 39 #[.val (.long q), .second, .val (.int (128 : Int32))] [(.ref b58)]))) (fun t kt => st65.trans kt) ?_
    have f66 : own_Ar Z T65.heap rc (.object "java/lang/Long") 256 fc := f61.keep K65 (ninS ne59 nin0)
    have f67 : Exa Z T65.heap b58 "java/lang/Long" := A58.keep K65
    have z68 : n0 ≤ T65.heap.size := Nat.le_trans z62 K65.1
    have kp69 : Keep h0 T65.heap [] := kp63.trans K65 (allS (Or.inr sz58) all0)
    exact own_retA X65 hx hlk hret rfl rfl (own_hb hby d5_39) rfl ⟨b58, rfl, N65, kp69, p65_0⟩ (by decide) (by decide)
  · skip
    refine own_Go.of (S' := (T0.setTop (mkF m 17 #[.val (.long q), .second, .val (.int (128 : Int32))] [(.int (lcmpW q (127 : Int64)))]))) (fun t kt => ?_) ?_
    · show Steps p.tables e below (T0.setTop (mkF m 9 #[.val (.long q), .second, .val (.int (128 : Int32))] [(.int (lcmpW q (-128 : Int64)))])) _
      refine XS.ifNo X0.here hx rfl (own_hb hby d5_9) rfl ((if0 _ _).trans (flt (fun q => hc9_57 ((lw_lt _ _).mp q))).1) ?_
      show Steps p.tables e below (T0.setTop (mkF m 12 #[.val (.long q), .second, .val (.int (128 : Int32))] [])) _
      refine XS.lloadN X0.here hx rfl (own_hb hby d5_12) rfl ?_
      show Steps p.tables e below (T0.setTop (mkF m 13 #[.val (.long q), .second, .val (.int (128 : Int32))] [(.long q)])) _
      refine X0.ldc2Long hx hown (mvT hZ (hw _ (List.mem_of_getElem? (i := 34) rfl))) (g := (mkF m 13 #[.val (.long q), .second, .val (.int (128 : Int32))] [(.long q)])) rfl (own_hb hby d5_13) _ ?_
      show Steps p.tables e below (T0.setTop (mkF m 16 #[.val (.long q), .second, .val (.int (128 : Int32))] [(.long (127 : Int64)), (.long q)])) _
      refine XS.lcmp X0.here hx rfl (own_hb hby d5_16) rfl ?_
      exact kt
    by_cases hc17_70 : (127 : Int64) < q
    · skip
      refine own_Go.of (S' := (T0.setTop (mkF m 31 #[.val (.long q), .second, .val (.int (128 : Int32))] []))) (fun t kt => ?_) ?_
      · show Steps p.tables e below (T0.setTop (mkF m 17 #[.val (.long q), .second, .val (.int (128 : Int32))] [(.int (lcmpW q (127 : Int64)))])) _
        refine XS.ifYes X0.here hx rfl (pc0 := 17) (pc' := 31) rfl (own_hb hby d5_17) rfl ((if0 _ _).trans (tlt ((lw_gt _ _).mpr hc17_70)).2.2.1) (by decide) (by decide) ?_
        exact kt
      obtain ⟨T71, h71, X71, e71, E71, A71, D71, -, st71⟩ := newO X0 hx hZ hown (hw _ (List.mem_of_getElem? (i := 35) rfl)) (hw _ (List.mem_of_getElem? (i := 36) rfl)) (hw _ (List.mem_of_getElem? (i := 31) rfl)) e0 (g := (mkF m 31 #[.val (.long q), .second, .val (.int (128 : Int32))] [])) rfl (own_hb hby d5_31) (by decide) (by decide)
      obtain ⟨b71, g71⟩ : ∃ z, z = h0.size := ⟨_, rfl⟩
      rw [← g71] at A71 D71 st71
      have gx71 : n0 ≤ b71 := Nat.le_trans Z0 (Nat.le_of_eq g71.symm)
      have ne72 : rc ≠ b71 := Nat.ne_of_lt (Nat.lt_of_lt_of_le pr1.lt (Nat.le_of_eq g71.symm))
      have sz71 : h0.size ≤ b71 := Nat.le_trans kp0.1 (Nat.le_of_eq g71.symm)
      refine own_Go.of (S' := (T71.setTop (mkF m 34 #[.val (.long q), .second, .val (.int (128 : Int32))] [(.ref b71)]))) st71 ?_
      have f73 : Sta Z h71 "java/lang/Long$LongCache" "cache" "[Ljava/lang/Long;" (.ref rc) := pr0.ext E71
      have f74 : own_Ar Z h71 rc (.object "java/lang/Long") 256 fc := pr1.ext E71
      have z75 : n0 ≤ h71.size := Nat.le_trans Z0 E71.1
      have kp76 : Keep h0 h71 [] := kp0.ext E71
      have f77 : Fld Z h71 b71 "java/lang/Long" "value" "J" (.long (0 : Int64)) := D71 (Or.inr (hw _ (List.mem_of_getElem? (i := 49) rfl))) (ty := .long) (by decide)
      refine own_Go.of (S' := (T71.setTop (mkF m 36 #[.val (.long q), .second, .val (.int (128 : Int32))] [(.long q), (.ref b71), (.ref b71)]))) (fun t kt => ?_) ?_
      · show Steps p.tables e below (T71.setTop (mkF m 34 #[.val (.long q), .second, .val (.int (128 : Int32))] [(.ref b71)])) _
        refine XS.dup X71.here hx rfl (own_hb hby d5_34) rfl rfl ?_
        show Steps p.tables e below (T71.setTop (mkF m 35 #[.val (.long q), .second, .val (.int (128 : Int32))] [(.ref b71), (.ref b71)])) _
        refine XS.lloadN X71.here hx rfl (own_hb hby d5_35) rfl ?_
        exact kt
      obtain ⟨_, _, ⟨T78, L78, k78, n78⟩, -, X78, ⟨Lc78, hQ78, l78, y78, z78⟩, st78⟩ := X71.specialBack hx (y := (⟨"java/lang/Long", "<init>", "(J)V"⟩ : MethodName)) rfl hown (mvT hZ (hw _ (List.mem_of_getElem? (i := 37) rfl))) (mvT hZ (hw _ (List.mem_of_getElem? (i := 38) rfl))) (mvT hZ (hw _ (List.mem_of_getElem? (i := 40) rfl))) (by decide) (backOf (W := 1) (rm6 l Z a0 hw [] b71 q (.long (0 : Int64)) h71 n0 z75 A71 f77 gx71) hZ (hw _ (List.mem_of_getElem? (i := 40) rfl)) (hw _ (List.mem_of_getElem? (i := 31) rfl)) (by decide) (by decide)) (g := (mkF m 36 #[.val (.long q), .second, .val (.int (128 : Int32))] [(.long q), (.ref b71), (.ref b71)])) rfl (by rw [hml]; rfl) (Steps.refl _) (a := b71) (argsL := [(.long q)]) (rest := [(.ref b71)]) (lenOf pd_1 rfl) rfl (by show 2 * 0 + _ ≤ _; exact Nat.le_of_eq rfl) (own_hb hby d5_36) (fun _ _ => ⟨rfl, e71, (by decide : 1 + 0 ≤ _), (by decide : 1 + 0 ≤ _)⟩)
      dsimp only [Pt.U, Pt.locs, Pt.cells, Pt.slots] at X78 l78 y78 z78 st78 hQ78
      subst l78 y78 z78
      obtain ⟨rfl, N78q, K78, p78_0, p78_1⟩ := hQ78
      have N78 := Fr.app N0 N78q
      refine own_Go.of (S' := (T78.setTop (mkF m 39 #[.val (.long q), .second, .val (.int (128 : Int32))] [(.ref b71)]))) (fun t kt => st78.trans kt) ?_
      have f79 : own_Ar Z T78.heap rc (.object "java/lang/Long") 256 fc := f74.keep K78 (ninS ne72 nin0)
      have f80 : Exa Z T78.heap b71 "java/lang/Long" := A71.keep K78
      have z81 : n0 ≤ T78.heap.size := Nat.le_trans z75 K78.1
      have kp82 : Keep h0 T78.heap [] := kp76.trans K78 (allS (Or.inr sz71) all0)
      exact own_retA X78 hx hlk hret rfl rfl (own_hb hby d5_39) rfl ⟨b71, rfl, N78, kp82, p78_0⟩ (by decide) (by decide)
    · skip
      refine own_Go.of (S' := (T0.setTop (mkF m 20 #[.val (.long q), .second, .val (.int (128 : Int32))] []))) (fun t kt => ?_) ?_
      · show Steps p.tables e below (T0.setTop (mkF m 17 #[.val (.long q), .second, .val (.int (128 : Int32))] [(.int (lcmpW q (127 : Int64)))])) _
        refine XS.ifNo X0.here hx rfl (own_hb hby d5_17) rfl ((if0 _ _).trans (flt (fun q => hc17_70 ((lw_gt _ _).mp q))).2.2.1) ?_
        exact kt
      obtain ⟨T83, X83, e83, st83⟩ := getS2 X0 hx hZ hown (host := "") (Or.inl (hw _ (List.mem_of_getElem? (i := 53) rfl))) Via.refl e0 pr0 (g := (mkF m 20 #[.val (.long q), .second, .val (.int (128 : Int32))] [])) rfl (own_hb hby d5_20)
      refine own_Go.of (S' := (T83.setTop (mkF m 23 #[.val (.long q), .second, .val (.int (128 : Int32))] [(.ref rc)]))) st83 ?_
      refine own_Go.of (S' := (T83.setTop (mkF m 29 #[.val (.long q), .second, .val (.int (128 : Int32))] [(.int ((q.toInt32) + (128 : Int32))), (.ref rc)]))) (fun t kt => ?_) ?_
      · show Steps p.tables e below (T83.setTop (mkF m 23 #[.val (.long q), .second, .val (.int (128 : Int32))] [(.ref rc)])) _
        refine XS.lloadN X83.here hx rfl (own_hb hby d5_23) rfl ?_
        show Steps p.tables e below (T83.setTop (mkF m 24 #[.val (.long q), .second, .val (.int (128 : Int32))] [(.long q), (.ref rc)])) _
        refine XS.l2i X83.here hx rfl (own_hb hby d5_24) rfl ?_
        show Steps p.tables e below (T83.setTop (mkF m 25 #[.val (.long q), .second, .val (.int (128 : Int32))] [(.int (q.toInt32)), (.ref rc)])) _
        refine XS.sipush X83.here hx rfl (own_hb hby d5_25) ?_
        show Steps p.tables e below (T83.setTop (mkF m 28 #[.val (.long q), .second, .val (.int (128 : Int32))] [(.int (128 : Int32)), (.int (q.toInt32)), (.ref rc)])) _
        refine XS.iadd X83.here hx rfl (own_hb hby d5_28) rfl ?_
        exact kt
      obtain ⟨i, hi, ei⟩ : ∃ i : Nat, i < 256 ∧ q.toInt32 + (128 : Int32) = Int32.ofNat i := own_cidx hc9_57 hc17_70
      obtain ⟨b, hb1, hb2⟩ := hca i hi
      refine own_Go.of (S' := (T83.setTop (mkF m 29 #[.val (.long q), .second, .val (.int (128 : Int32))] [(.int (Int32.ofNat i)), (.ref rc)]))) (fun t kt => ?_) ?_
      · show Steps p.tables e below (T83.setTop (mkF m 29 #[.val (.long q), .second, .val (.int (128 : Int32))] [(.int ((q.toInt32) + (128 : Int32))), (.ref rc)])) _
        rw [ei]
        exact kt
      obtain ⟨cl84, Ar84, hin84, hat84⟩ := own_Ar.get (j := (Int32.ofNat i)) (k := i) pr1 ⟨rfl, hi⟩
      rw [hb1] at hat84
      refine own_Go.of (S' := (T83.setTop (mkF m 30 #[.val (.long q), .second, .val (.int (128 : Int32))] [(.ref b)]))) (fun t kt => ?_) ?_
      · show Steps p.tables e below (T83.setTop (mkF m 29 #[.val (.long q), .second, .val (.int (128 : Int32))] [(.int (Int32.ofNat i)), (.ref rc)])) _
        refine X83.aaload hx (j := (Int32.ofNat i)) (v := (.ref b)) (by rw [e83]; exact Ar84.1) (State.isArrayOf_alike hZ.alike Ar84.2.1) rfl Ar84.2.2 hin84 hat84 (g := (mkF m 29 #[.val (.long q), .second, .val (.int (128 : Int32))] [(.int (Int32.ofNat i)), (.ref rc)])) rfl rfl (own_hb hby d5_29) _ ?_
        exact kt
      exact own_retA X83 hx hlk hret rfl rfl (own_hb hby d5_30) e83 ⟨b, rfl, N0, kp0, hb2⟩ (by decide) (by decide)
theorem pn_0 : plainName "com/example/quayside/quayside/FileStampEqualsPinLaw" = true := by first | (simp [plainName, overriddenIn]; done) | decide +kernel
def Q_rm0 (Z : State) (p0 : Int64) (p1 : Int64) (p2 : Int64) (p3 : Int64) (p4 : Int64) (p5 : Int32) (rc : Addr) (fc : Nat → Value) (h0 : Heap) (n0 : Nat) (v : Option Value) (h : Heap) (L : List Loc) : Prop := v = some (.int (1 : Int32)) ∧ Fr n0 L
theorem pd_2 : parseMethodDescriptor "(JJJJ)V" = some ⟨[.long, .long, .long, .long], none⟩ := by decide +kernel
theorem pd_3 : parseMethodDescriptor "(Ljava/lang/Object;)Z" = some ⟨[(.object "java/lang/Object")], some .boolean⟩ := by decide +kernel
theorem pd_4 : parseMethodDescriptor "(J)Ljava/lang/Long;" = some ⟨[.long], some (.object "java/lang/Long")⟩ := by decide +kernel
set_option maxRecDepth 65536 in
set_option maxHeartbeats 40000000 in
theorem rm0 (l : Launch) (Z : State) (a0 : Array Value) (hw : ∀ d ∈ tables_1, d.before a0 Z = true) (ws : List Jvm.Cond) (p0 : Int64) (p1 : Int64) (p2 : Int64) (p3 : Int64) (p4 : Int64) (p5 : Int32) (rc : Addr) (fc : Nat → Value) (h0 : Heap) (n0 : Nat) (Z0 : n0 ≤ h0.size) (pr0 : Old Z n0 h0) (hS : Sta Z Z.heap "java/lang/Long$LongCache" "cache" "[Ljava/lang/Long;" (.ref rc)) (hA : own_Ar Z Z.heap rc (.object "java/lang/Long") 256 fc) (hC : ∀ i, i < 256 → ∃ b : Addr, fc i = .ref b ∧ Exa Z Z.heap b "java/lang/Long") :
    own_Met l Z h0 x code maxLocals ret ws room_1 #[(.long p0), (.long p1), (.long p2), (.long p3), (.long p4), (.int p5)] (Q_rm0 Z p0 p1 p2 p3 p4 p5 rc fc h0 n0) := by
  refine own_enter (plainFor_of_name pn_0) ?_
  intro p e s m below meth c T0 X0 hx hby hml hret hlk hown hnm hZ e0
  have N0 := Fr.nil n0
  rw [show entryFrame m #[(.long p0), (.long p1), (.long p2), (.long p3), (.long p4), (.int p5)] maxLocals = (mkF m 0 #[.val (.long p0), .second, .val (.long p1), .second, .val (.long p2), .second, .val (.long p3), .second, .val (.long p4), .second, .val (.int p5), .unset, .unset, .unset, .unset, .unset, .unset, .unset, .unset, .unset, .unset, .unset, .unset] []) from by first | (simp [entryFrame, mkF, argsToLocals, Value.category, maxLocals]; done) | rfl]
  refine own_Go.of (S' := (T0.setTop (mkF m 4 #[.val (.long p0), .second, .val (.long p1), .second, .val (.long p2), .second, .val (.long p3), .second, .val (.long p4), .second, .val (.int p5), .unset, .unset, .unset, .unset, .unset, .unset, .unset, .unset, .unset, .unset, .unset, .unset] [(.int (p5 &&& (1 : Int32)))]))) (fun t kt => ?_) ?_
  · show Steps p.tables e below (T0.setTop (mkF m 0 #[.val (.long p0), .second, .val (.long p1), .second, .val (.long p2), .second, .val (.long p3), .second, .val (.long p4), .second, .val (.int p5), .unset, .unset, .unset, .unset, .unset, .unset, .unset, .unset, .unset, .unset, .unset, .unset] [])) _
    refine XS.iload X0.here hx rfl (own_hb hby at_0) rfl ?_
    show Steps p.tables e below (T0.setTop (mkF m 2 #[.val (.long p0), .second, .val (.long p1), .second, .val (.long p2), .second, .val (.long p3), .second, .val (.long p4), .second, .val (.int p5), .unset, .unset, .unset, .unset, .unset, .unset, .unset, .unset, .unset, .unset, .unset, .unset] [(.int p5)])) _
    refine XS.iconst X0.here hx rfl (own_hb hby at_2) ?_
    show Steps p.tables e below (T0.setTop (mkF m 3 #[.val (.long p0), .second, .val (.long p1), .second, .val (.long p2), .second, .val (.long p3), .second, .val (.long p4), .second, .val (.int p5), .unset, .unset, .unset, .unset, .unset, .unset, .unset, .unset, .unset, .unset, .unset, .unset] [(.int (1 : Int32)), (.int p5)])) _
    refine XS.iand X0.here hx rfl (own_hb hby at_3) rfl ?_
    exact kt
  obtain ⟨v86, hd88, st87⟩ : ∃ v86 : Int64, ((v86 = p0 ∧ (p5 &&& (1 : Int32)) = (0 : Int32)) ∨ (v86 = p4 ∧ ¬ ((p5 &&& (1 : Int32)) = (0 : Int32)))) ∧ ∀ t, Steps p.tables e below (T0.setTop (mkF m 13 #[.val (.long p0), .second, .val (.long p1), .second, .val (.long p2), .second, .val (.long p3), .second, .val (.long p4), .second, .val (.int p5), .unset, .unset, .unset, .unset, .unset, .unset, .unset, .unset, .unset, .unset, .unset, .unset] [(.long v86)])) t → Steps p.tables e below (T0.setTop (mkF m 4 #[.val (.long p0), .second, .val (.long p1), .second, .val (.long p2), .second, .val (.long p3), .second, .val (.long p4), .second, .val (.int p5), .unset, .unset, .unset, .unset, .unset, .unset, .unset, .unset, .unset, .unset, .unset, .unset] [(.int (p5 &&& (1 : Int32)))])) t := by
    by_cases hc4_85 : (p5 &&& (1 : Int32)) = (0 : Int32)
    · skip
      refine ⟨p0, (Or.inl (⟨rfl, hc4_85⟩)), fun t kt => ?_⟩
      show Steps p.tables e below (T0.setTop (mkF m 4 #[.val (.long p0), .second, .val (.long p1), .second, .val (.long p2), .second, .val (.long p3), .second, .val (.long p4), .second, .val (.int p5), .unset, .unset, .unset, .unset, .unset, .unset, .unset, .unset, .unset, .unset, .unset, .unset] [(.int (p5 &&& (1 : Int32)))])) _
      refine XS.ifYes X0.here hx rfl (pc0 := 4) (pc' := 12) rfl (own_hb hby at_4) rfl ((if0 _ _).trans (teq hc4_85).1) (by decide) (by decide) ?_
      show Steps p.tables e below (T0.setTop (mkF m 12 #[.val (.long p0), .second, .val (.long p1), .second, .val (.long p2), .second, .val (.long p3), .second, .val (.long p4), .second, .val (.int p5), .unset, .unset, .unset, .unset, .unset, .unset, .unset, .unset, .unset, .unset, .unset, .unset] [])) _
      refine XS.lloadN X0.here hx rfl (own_hb hby at_12) rfl ?_
      exact kt
    · skip
      refine ⟨p4, (Or.inr (⟨rfl, hc4_85⟩)), fun t kt => ?_⟩
      show Steps p.tables e below (T0.setTop (mkF m 4 #[.val (.long p0), .second, .val (.long p1), .second, .val (.long p2), .second, .val (.long p3), .second, .val (.long p4), .second, .val (.int p5), .unset, .unset, .unset, .unset, .unset, .unset, .unset, .unset, .unset, .unset, .unset, .unset] [(.int (p5 &&& (1 : Int32)))])) _
      refine XS.ifNo X0.here hx rfl (own_hb hby at_4) rfl ((if0 _ _).trans (feq hc4_85).1) ?_
      show Steps p.tables e below (T0.setTop (mkF m 7 #[.val (.long p0), .second, .val (.long p1), .second, .val (.long p2), .second, .val (.long p3), .second, .val (.long p4), .second, .val (.int p5), .unset, .unset, .unset, .unset, .unset, .unset, .unset, .unset, .unset, .unset, .unset, .unset] [])) _
      refine XS.lload X0.here hx rfl (own_hb hby at_7) rfl ?_
      show Steps p.tables e below (T0.setTop (mkF m 9 #[.val (.long p0), .second, .val (.long p1), .second, .val (.long p2), .second, .val (.long p3), .second, .val (.long p4), .second, .val (.int p5), .unset, .unset, .unset, .unset, .unset, .unset, .unset, .unset, .unset, .unset, .unset, .unset] [(.long p4)])) _
      refine XS.goto X0.here hx rfl (pc0 := 9) (pc' := 13) rfl (own_hb hby at_9) (by decide) (by decide) ?_
      exact kt
  refine own_Go.of (S' := (T0.setTop (mkF m 13 #[.val (.long p0), .second, .val (.long p1), .second, .val (.long p2), .second, .val (.long p3), .second, .val (.long p4), .second, .val (.int p5), .unset, .unset, .unset, .unset, .unset, .unset, .unset, .unset, .unset, .unset, .unset, .unset] [(.long v86)]))) st87 ?_
  refine own_Go.of (S' := (T0.setTop (mkF m 19 #[.val (.long p0), .second, .val (.long p1), .second, .val (.long p2), .second, .val (.long p3), .second, .val (.long p4), .second, .val (.int p5), .val (.long v86), .second, .unset, .unset, .unset, .unset, .unset, .unset, .unset, .unset, .unset, .unset] [(.int (p5 &&& (2 : Int32)))]))) (fun t kt => ?_) ?_
  · show Steps p.tables e below (T0.setTop (mkF m 13 #[.val (.long p0), .second, .val (.long p1), .second, .val (.long p2), .second, .val (.long p3), .second, .val (.long p4), .second, .val (.int p5), .unset, .unset, .unset, .unset, .unset, .unset, .unset, .unset, .unset, .unset, .unset, .unset] [(.long v86)])) _
    refine XS.lstore X0.here hx rfl (own_hb hby at_13) rfl (l' := #[.val (.long p0), .second, .val (.long p1), .second, .val (.long p2), .second, .val (.long p3), .second, .val (.long p4), .second, .val (.int p5), .val (.long v86), .second, .unset, .unset, .unset, .unset, .unset, .unset, .unset, .unset, .unset, .unset]) rfl ?_
    show Steps p.tables e below (T0.setTop (mkF m 15 #[.val (.long p0), .second, .val (.long p1), .second, .val (.long p2), .second, .val (.long p3), .second, .val (.long p4), .second, .val (.int p5), .val (.long v86), .second, .unset, .unset, .unset, .unset, .unset, .unset, .unset, .unset, .unset, .unset] [])) _
    refine XS.iload X0.here hx rfl (own_hb hby at_15) rfl ?_
    show Steps p.tables e below (T0.setTop (mkF m 17 #[.val (.long p0), .second, .val (.long p1), .second, .val (.long p2), .second, .val (.long p3), .second, .val (.long p4), .second, .val (.int p5), .val (.long v86), .second, .unset, .unset, .unset, .unset, .unset, .unset, .unset, .unset, .unset, .unset] [(.int p5)])) _
    refine XS.iconst X0.here hx rfl (own_hb hby at_17) ?_
    show Steps p.tables e below (T0.setTop (mkF m 18 #[.val (.long p0), .second, .val (.long p1), .second, .val (.long p2), .second, .val (.long p3), .second, .val (.long p4), .second, .val (.int p5), .val (.long v86), .second, .unset, .unset, .unset, .unset, .unset, .unset, .unset, .unset, .unset, .unset] [(.int (2 : Int32)), (.int p5)])) _
    refine XS.iand X0.here hx rfl (own_hb hby at_18) rfl ?_
    exact kt
  obtain ⟨v90, hd92, st91⟩ : ∃ v90 : Int64, ((v90 = p1 ∧ (p5 &&& (2 : Int32)) = (0 : Int32)) ∨ (v90 = p4 ∧ ¬ ((p5 &&& (2 : Int32)) = (0 : Int32)))) ∧ ∀ t, Steps p.tables e below (T0.setTop (mkF m 28 #[.val (.long p0), .second, .val (.long p1), .second, .val (.long p2), .second, .val (.long p3), .second, .val (.long p4), .second, .val (.int p5), .val (.long v86), .second, .unset, .unset, .unset, .unset, .unset, .unset, .unset, .unset, .unset, .unset] [(.long v90)])) t → Steps p.tables e below (T0.setTop (mkF m 19 #[.val (.long p0), .second, .val (.long p1), .second, .val (.long p2), .second, .val (.long p3), .second, .val (.long p4), .second, .val (.int p5), .val (.long v86), .second, .unset, .unset, .unset, .unset, .unset, .unset, .unset, .unset, .unset, .unset] [(.int (p5 &&& (2 : Int32)))])) t := by
    by_cases hc19_89 : (p5 &&& (2 : Int32)) = (0 : Int32)
    · skip
      refine ⟨p1, (Or.inl (⟨rfl, hc19_89⟩)), fun t kt => ?_⟩
      show Steps p.tables e below (T0.setTop (mkF m 19 #[.val (.long p0), .second, .val (.long p1), .second, .val (.long p2), .second, .val (.long p3), .second, .val (.long p4), .second, .val (.int p5), .val (.long v86), .second, .unset, .unset, .unset, .unset, .unset, .unset, .unset, .unset, .unset, .unset] [(.int (p5 &&& (2 : Int32)))])) _
      refine XS.ifYes X0.here hx rfl (pc0 := 19) (pc' := 27) rfl (own_hb hby at_19) rfl ((if0 _ _).trans (teq hc19_89).1) (by decide) (by decide) ?_
      show Steps p.tables e below (T0.setTop (mkF m 27 #[.val (.long p0), .second, .val (.long p1), .second, .val (.long p2), .second, .val (.long p3), .second, .val (.long p4), .second, .val (.int p5), .val (.long v86), .second, .unset, .unset, .unset, .unset, .unset, .unset, .unset, .unset, .unset, .unset] [])) _
      refine XS.lloadN X0.here hx rfl (own_hb hby at_27) rfl ?_
      exact kt
    · skip
      refine ⟨p4, (Or.inr (⟨rfl, hc19_89⟩)), fun t kt => ?_⟩
      show Steps p.tables e below (T0.setTop (mkF m 19 #[.val (.long p0), .second, .val (.long p1), .second, .val (.long p2), .second, .val (.long p3), .second, .val (.long p4), .second, .val (.int p5), .val (.long v86), .second, .unset, .unset, .unset, .unset, .unset, .unset, .unset, .unset, .unset, .unset] [(.int (p5 &&& (2 : Int32)))])) _
      refine XS.ifNo X0.here hx rfl (own_hb hby at_19) rfl ((if0 _ _).trans (feq hc19_89).1) ?_
      show Steps p.tables e below (T0.setTop (mkF m 22 #[.val (.long p0), .second, .val (.long p1), .second, .val (.long p2), .second, .val (.long p3), .second, .val (.long p4), .second, .val (.int p5), .val (.long v86), .second, .unset, .unset, .unset, .unset, .unset, .unset, .unset, .unset, .unset, .unset] [])) _
      refine XS.lload X0.here hx rfl (own_hb hby at_22) rfl ?_
      show Steps p.tables e below (T0.setTop (mkF m 24 #[.val (.long p0), .second, .val (.long p1), .second, .val (.long p2), .second, .val (.long p3), .second, .val (.long p4), .second, .val (.int p5), .val (.long v86), .second, .unset, .unset, .unset, .unset, .unset, .unset, .unset, .unset, .unset, .unset] [(.long p4)])) _
      refine XS.goto X0.here hx rfl (pc0 := 24) (pc' := 28) rfl (own_hb hby at_24) (by decide) (by decide) ?_
      exact kt
  refine own_Go.of (S' := (T0.setTop (mkF m 28 #[.val (.long p0), .second, .val (.long p1), .second, .val (.long p2), .second, .val (.long p3), .second, .val (.long p4), .second, .val (.int p5), .val (.long v86), .second, .unset, .unset, .unset, .unset, .unset, .unset, .unset, .unset, .unset, .unset] [(.long v90)]))) st91 ?_
  refine own_Go.of (S' := (T0.setTop (mkF m 34 #[.val (.long p0), .second, .val (.long p1), .second, .val (.long p2), .second, .val (.long p3), .second, .val (.long p4), .second, .val (.int p5), .val (.long v86), .second, .val (.long v90), .second, .unset, .unset, .unset, .unset, .unset, .unset, .unset, .unset] [(.int (p5 &&& (4 : Int32)))]))) (fun t kt => ?_) ?_
  · show Steps p.tables e below (T0.setTop (mkF m 28 #[.val (.long p0), .second, .val (.long p1), .second, .val (.long p2), .second, .val (.long p3), .second, .val (.long p4), .second, .val (.int p5), .val (.long v86), .second, .unset, .unset, .unset, .unset, .unset, .unset, .unset, .unset, .unset, .unset] [(.long v90)])) _
    refine XS.lstore X0.here hx rfl (own_hb hby at_28) rfl (l' := #[.val (.long p0), .second, .val (.long p1), .second, .val (.long p2), .second, .val (.long p3), .second, .val (.long p4), .second, .val (.int p5), .val (.long v86), .second, .val (.long v90), .second, .unset, .unset, .unset, .unset, .unset, .unset, .unset, .unset]) rfl ?_
    show Steps p.tables e below (T0.setTop (mkF m 30 #[.val (.long p0), .second, .val (.long p1), .second, .val (.long p2), .second, .val (.long p3), .second, .val (.long p4), .second, .val (.int p5), .val (.long v86), .second, .val (.long v90), .second, .unset, .unset, .unset, .unset, .unset, .unset, .unset, .unset] [])) _
    refine XS.iload X0.here hx rfl (own_hb hby at_30) rfl ?_
    show Steps p.tables e below (T0.setTop (mkF m 32 #[.val (.long p0), .second, .val (.long p1), .second, .val (.long p2), .second, .val (.long p3), .second, .val (.long p4), .second, .val (.int p5), .val (.long v86), .second, .val (.long v90), .second, .unset, .unset, .unset, .unset, .unset, .unset, .unset, .unset] [(.int p5)])) _
    refine XS.iconst X0.here hx rfl (own_hb hby at_32) ?_
    show Steps p.tables e below (T0.setTop (mkF m 33 #[.val (.long p0), .second, .val (.long p1), .second, .val (.long p2), .second, .val (.long p3), .second, .val (.long p4), .second, .val (.int p5), .val (.long v86), .second, .val (.long v90), .second, .unset, .unset, .unset, .unset, .unset, .unset, .unset, .unset] [(.int (4 : Int32)), (.int p5)])) _
    refine XS.iand X0.here hx rfl (own_hb hby at_33) rfl ?_
    exact kt
  obtain ⟨v94, hd96, st95⟩ : ∃ v94 : Int64, ((v94 = p2 ∧ (p5 &&& (4 : Int32)) = (0 : Int32)) ∨ (v94 = p4 ∧ ¬ ((p5 &&& (4 : Int32)) = (0 : Int32)))) ∧ ∀ t, Steps p.tables e below (T0.setTop (mkF m 44 #[.val (.long p0), .second, .val (.long p1), .second, .val (.long p2), .second, .val (.long p3), .second, .val (.long p4), .second, .val (.int p5), .val (.long v86), .second, .val (.long v90), .second, .unset, .unset, .unset, .unset, .unset, .unset, .unset, .unset] [(.long v94)])) t → Steps p.tables e below (T0.setTop (mkF m 34 #[.val (.long p0), .second, .val (.long p1), .second, .val (.long p2), .second, .val (.long p3), .second, .val (.long p4), .second, .val (.int p5), .val (.long v86), .second, .val (.long v90), .second, .unset, .unset, .unset, .unset, .unset, .unset, .unset, .unset] [(.int (p5 &&& (4 : Int32)))])) t := by
    by_cases hc34_93 : (p5 &&& (4 : Int32)) = (0 : Int32)
    · skip
      refine ⟨p2, (Or.inl (⟨rfl, hc34_93⟩)), fun t kt => ?_⟩
      show Steps p.tables e below (T0.setTop (mkF m 34 #[.val (.long p0), .second, .val (.long p1), .second, .val (.long p2), .second, .val (.long p3), .second, .val (.long p4), .second, .val (.int p5), .val (.long v86), .second, .val (.long v90), .second, .unset, .unset, .unset, .unset, .unset, .unset, .unset, .unset] [(.int (p5 &&& (4 : Int32)))])) _
      refine XS.ifYes X0.here hx rfl (pc0 := 34) (pc' := 42) rfl (own_hb hby at_34) rfl ((if0 _ _).trans (teq hc34_93).1) (by decide) (by decide) ?_
      show Steps p.tables e below (T0.setTop (mkF m 42 #[.val (.long p0), .second, .val (.long p1), .second, .val (.long p2), .second, .val (.long p3), .second, .val (.long p4), .second, .val (.int p5), .val (.long v86), .second, .val (.long v90), .second, .unset, .unset, .unset, .unset, .unset, .unset, .unset, .unset] [])) _
      refine XS.lload X0.here hx rfl (own_hb hby at_42) rfl ?_
      exact kt
    · skip
      refine ⟨p4, (Or.inr (⟨rfl, hc34_93⟩)), fun t kt => ?_⟩
      show Steps p.tables e below (T0.setTop (mkF m 34 #[.val (.long p0), .second, .val (.long p1), .second, .val (.long p2), .second, .val (.long p3), .second, .val (.long p4), .second, .val (.int p5), .val (.long v86), .second, .val (.long v90), .second, .unset, .unset, .unset, .unset, .unset, .unset, .unset, .unset] [(.int (p5 &&& (4 : Int32)))])) _
      refine XS.ifNo X0.here hx rfl (own_hb hby at_34) rfl ((if0 _ _).trans (feq hc34_93).1) ?_
      show Steps p.tables e below (T0.setTop (mkF m 37 #[.val (.long p0), .second, .val (.long p1), .second, .val (.long p2), .second, .val (.long p3), .second, .val (.long p4), .second, .val (.int p5), .val (.long v86), .second, .val (.long v90), .second, .unset, .unset, .unset, .unset, .unset, .unset, .unset, .unset] [])) _
      refine XS.lload X0.here hx rfl (own_hb hby at_37) rfl ?_
      show Steps p.tables e below (T0.setTop (mkF m 39 #[.val (.long p0), .second, .val (.long p1), .second, .val (.long p2), .second, .val (.long p3), .second, .val (.long p4), .second, .val (.int p5), .val (.long v86), .second, .val (.long v90), .second, .unset, .unset, .unset, .unset, .unset, .unset, .unset, .unset] [(.long p4)])) _
      refine XS.goto X0.here hx rfl (pc0 := 39) (pc' := 44) rfl (own_hb hby at_39) (by decide) (by decide) ?_
      exact kt
  refine own_Go.of (S' := (T0.setTop (mkF m 44 #[.val (.long p0), .second, .val (.long p1), .second, .val (.long p2), .second, .val (.long p3), .second, .val (.long p4), .second, .val (.int p5), .val (.long v86), .second, .val (.long v90), .second, .unset, .unset, .unset, .unset, .unset, .unset, .unset, .unset] [(.long v94)]))) st95 ?_
  refine own_Go.of (S' := (T0.setTop (mkF m 51 #[.val (.long p0), .second, .val (.long p1), .second, .val (.long p2), .second, .val (.long p3), .second, .val (.long p4), .second, .val (.int p5), .val (.long v86), .second, .val (.long v90), .second, .val (.long v94), .second, .unset, .unset, .unset, .unset, .unset, .unset] [(.int (p5 &&& (8 : Int32)))]))) (fun t kt => ?_) ?_
  · show Steps p.tables e below (T0.setTop (mkF m 44 #[.val (.long p0), .second, .val (.long p1), .second, .val (.long p2), .second, .val (.long p3), .second, .val (.long p4), .second, .val (.int p5), .val (.long v86), .second, .val (.long v90), .second, .unset, .unset, .unset, .unset, .unset, .unset, .unset, .unset] [(.long v94)])) _
    refine XS.lstore X0.here hx rfl (own_hb hby at_44) rfl (l' := #[.val (.long p0), .second, .val (.long p1), .second, .val (.long p2), .second, .val (.long p3), .second, .val (.long p4), .second, .val (.int p5), .val (.long v86), .second, .val (.long v90), .second, .val (.long v94), .second, .unset, .unset, .unset, .unset, .unset, .unset]) rfl ?_
    show Steps p.tables e below (T0.setTop (mkF m 46 #[.val (.long p0), .second, .val (.long p1), .second, .val (.long p2), .second, .val (.long p3), .second, .val (.long p4), .second, .val (.int p5), .val (.long v86), .second, .val (.long v90), .second, .val (.long v94), .second, .unset, .unset, .unset, .unset, .unset, .unset] [])) _
    refine XS.iload X0.here hx rfl (own_hb hby at_46) rfl ?_
    show Steps p.tables e below (T0.setTop (mkF m 48 #[.val (.long p0), .second, .val (.long p1), .second, .val (.long p2), .second, .val (.long p3), .second, .val (.long p4), .second, .val (.int p5), .val (.long v86), .second, .val (.long v90), .second, .val (.long v94), .second, .unset, .unset, .unset, .unset, .unset, .unset] [(.int p5)])) _
    refine XS.bipush X0.here hx rfl (own_hb hby at_48) ?_
    show Steps p.tables e below (T0.setTop (mkF m 50 #[.val (.long p0), .second, .val (.long p1), .second, .val (.long p2), .second, .val (.long p3), .second, .val (.long p4), .second, .val (.int p5), .val (.long v86), .second, .val (.long v90), .second, .val (.long v94), .second, .unset, .unset, .unset, .unset, .unset, .unset] [(.int (8 : Int32)), (.int p5)])) _
    refine XS.iand X0.here hx rfl (own_hb hby at_50) rfl ?_
    exact kt
  obtain ⟨v98, hd100, st99⟩ : ∃ v98 : Int64, ((v98 = p3 ∧ (p5 &&& (8 : Int32)) = (0 : Int32)) ∨ (v98 = p4 ∧ ¬ ((p5 &&& (8 : Int32)) = (0 : Int32)))) ∧ ∀ t, Steps p.tables e below (T0.setTop (mkF m 61 #[.val (.long p0), .second, .val (.long p1), .second, .val (.long p2), .second, .val (.long p3), .second, .val (.long p4), .second, .val (.int p5), .val (.long v86), .second, .val (.long v90), .second, .val (.long v94), .second, .unset, .unset, .unset, .unset, .unset, .unset] [(.long v98)])) t → Steps p.tables e below (T0.setTop (mkF m 51 #[.val (.long p0), .second, .val (.long p1), .second, .val (.long p2), .second, .val (.long p3), .second, .val (.long p4), .second, .val (.int p5), .val (.long v86), .second, .val (.long v90), .second, .val (.long v94), .second, .unset, .unset, .unset, .unset, .unset, .unset] [(.int (p5 &&& (8 : Int32)))])) t := by
    by_cases hc51_97 : (p5 &&& (8 : Int32)) = (0 : Int32)
    · skip
      refine ⟨p3, (Or.inl (⟨rfl, hc51_97⟩)), fun t kt => ?_⟩
      show Steps p.tables e below (T0.setTop (mkF m 51 #[.val (.long p0), .second, .val (.long p1), .second, .val (.long p2), .second, .val (.long p3), .second, .val (.long p4), .second, .val (.int p5), .val (.long v86), .second, .val (.long v90), .second, .val (.long v94), .second, .unset, .unset, .unset, .unset, .unset, .unset] [(.int (p5 &&& (8 : Int32)))])) _
      refine XS.ifYes X0.here hx rfl (pc0 := 51) (pc' := 59) rfl (own_hb hby at_51) rfl ((if0 _ _).trans (teq hc51_97).1) (by decide) (by decide) ?_
      show Steps p.tables e below (T0.setTop (mkF m 59 #[.val (.long p0), .second, .val (.long p1), .second, .val (.long p2), .second, .val (.long p3), .second, .val (.long p4), .second, .val (.int p5), .val (.long v86), .second, .val (.long v90), .second, .val (.long v94), .second, .unset, .unset, .unset, .unset, .unset, .unset] [])) _
      refine XS.lload X0.here hx rfl (own_hb hby at_59) rfl ?_
      exact kt
    · skip
      refine ⟨p4, (Or.inr (⟨rfl, hc51_97⟩)), fun t kt => ?_⟩
      show Steps p.tables e below (T0.setTop (mkF m 51 #[.val (.long p0), .second, .val (.long p1), .second, .val (.long p2), .second, .val (.long p3), .second, .val (.long p4), .second, .val (.int p5), .val (.long v86), .second, .val (.long v90), .second, .val (.long v94), .second, .unset, .unset, .unset, .unset, .unset, .unset] [(.int (p5 &&& (8 : Int32)))])) _
      refine XS.ifNo X0.here hx rfl (own_hb hby at_51) rfl ((if0 _ _).trans (feq hc51_97).1) ?_
      show Steps p.tables e below (T0.setTop (mkF m 54 #[.val (.long p0), .second, .val (.long p1), .second, .val (.long p2), .second, .val (.long p3), .second, .val (.long p4), .second, .val (.int p5), .val (.long v86), .second, .val (.long v90), .second, .val (.long v94), .second, .unset, .unset, .unset, .unset, .unset, .unset] [])) _
      refine XS.lload X0.here hx rfl (own_hb hby at_54) rfl ?_
      show Steps p.tables e below (T0.setTop (mkF m 56 #[.val (.long p0), .second, .val (.long p1), .second, .val (.long p2), .second, .val (.long p3), .second, .val (.long p4), .second, .val (.int p5), .val (.long v86), .second, .val (.long v90), .second, .val (.long v94), .second, .unset, .unset, .unset, .unset, .unset, .unset] [(.long p4)])) _
      refine XS.goto X0.here hx rfl (pc0 := 56) (pc' := 61) rfl (own_hb hby at_56) (by decide) (by decide) ?_
      exact kt
  refine own_Go.of (S' := (T0.setTop (mkF m 61 #[.val (.long p0), .second, .val (.long p1), .second, .val (.long p2), .second, .val (.long p3), .second, .val (.long p4), .second, .val (.int p5), .val (.long v86), .second, .val (.long v90), .second, .val (.long v94), .second, .unset, .unset, .unset, .unset, .unset, .unset] [(.long v98)]))) st99 ?_
  refine own_Go.of (S' := (T0.setTop (mkF m 63 #[.val (.long p0), .second, .val (.long p1), .second, .val (.long p2), .second, .val (.long p3), .second, .val (.long p4), .second, .val (.int p5), .val (.long v86), .second, .val (.long v90), .second, .val (.long v94), .second, .val (.long v98), .second, .unset, .unset, .unset, .unset] []))) (fun t kt => ?_) ?_
  · show Steps p.tables e below (T0.setTop (mkF m 61 #[.val (.long p0), .second, .val (.long p1), .second, .val (.long p2), .second, .val (.long p3), .second, .val (.long p4), .second, .val (.int p5), .val (.long v86), .second, .val (.long v90), .second, .val (.long v94), .second, .unset, .unset, .unset, .unset, .unset, .unset] [(.long v98)])) _
    refine XS.lstore X0.here hx rfl (own_hb hby at_61) rfl (l' := #[.val (.long p0), .second, .val (.long p1), .second, .val (.long p2), .second, .val (.long p3), .second, .val (.long p4), .second, .val (.int p5), .val (.long v86), .second, .val (.long v90), .second, .val (.long v94), .second, .val (.long v98), .second, .unset, .unset, .unset, .unset]) rfl ?_
    exact kt
  obtain ⟨T101, h101, X101, e101, E101, A101, D101, -, st101⟩ := newO X0 hx hZ hown (hw _ (List.mem_of_getElem? (i := 0) rfl)) (hw _ (List.mem_of_getElem? (i := 1) rfl)) (hw _ (List.mem_of_getElem? (i := 2) rfl)) e0 (g := (mkF m 63 #[.val (.long p0), .second, .val (.long p1), .second, .val (.long p2), .second, .val (.long p3), .second, .val (.long p4), .second, .val (.int p5), .val (.long v86), .second, .val (.long v90), .second, .val (.long v94), .second, .val (.long v98), .second, .unset, .unset, .unset, .unset] [])) rfl (own_hb hby at_63) (by decide) (by decide)
  obtain ⟨b101, g101⟩ : ∃ z, z = h0.size := ⟨_, rfl⟩
  rw [← g101] at A101 D101 st101
  have gx101 : n0 ≤ b101 := Nat.le_trans Z0 (Nat.le_of_eq g101.symm)
  refine own_Go.of (S' := (T101.setTop (mkF m 66 #[.val (.long p0), .second, .val (.long p1), .second, .val (.long p2), .second, .val (.long p3), .second, .val (.long p4), .second, .val (.int p5), .val (.long v86), .second, .val (.long v90), .second, .val (.long v94), .second, .val (.long v98), .second, .unset, .unset, .unset, .unset] [(.ref b101)]))) st101 ?_
  have f102 : Old Z n0 h101 := pr0.ext E101
  have z103 : n0 ≤ h101.size := Nat.le_trans Z0 E101.1
  have f104 : Fld Z h101 b101 "com/example/quayside/quayside/FileStamp" "device" "J" (.long (0 : Int64)) := D101 (Or.inr (hw _ (List.mem_of_getElem? (i := 15) rfl))) (ty := .long) (by decide)
  have f105 : Fld Z h101 b101 "com/example/quayside/quayside/FileStamp" "inode" "J" (.long (0 : Int64)) := D101 (Or.inr (hw _ (List.mem_of_getElem? (i := 17) rfl))) (ty := .long) (by decide)
  have f106 : Fld Z h101 b101 "com/example/quayside/quayside/FileStamp" "size" "J" (.long (0 : Int64)) := D101 (Or.inr (hw _ (List.mem_of_getElem? (i := 19) rfl))) (ty := .long) (by decide)
  have f107 : Fld Z h101 b101 "com/example/quayside/quayside/FileStamp" "changed" "J" (.long (0 : Int64)) := D101 (Or.inr (hw _ (List.mem_of_getElem? (i := 21) rfl))) (ty := .long) (by decide)
  refine own_Go.of (S' := (T101.setTop (mkF m 73 #[.val (.long p0), .second, .val (.long p1), .second, .val (.long p2), .second, .val (.long p3), .second, .val (.long p4), .second, .val (.int p5), .val (.long v86), .second, .val (.long v90), .second, .val (.long v94), .second, .val (.long v98), .second, .unset, .unset, .unset, .unset] [(.long p3), (.long p2), (.long p1), (.long p0), (.ref b101), (.ref b101)]))) (fun t kt => ?_) ?_
  · show Steps p.tables e below (T101.setTop (mkF m 66 #[.val (.long p0), .second, .val (.long p1), .second, .val (.long p2), .second, .val (.long p3), .second, .val (.long p4), .second, .val (.int p5), .val (.long v86), .second, .val (.long v90), .second, .val (.long v94), .second, .val (.long v98), .second, .unset, .unset, .unset, .unset] [(.ref b101)])) _
    refine XS.dup X101.here hx rfl (own_hb hby at_66) rfl rfl ?_
    show Steps p.tables e below (T101.setTop (mkF m 67 #[.val (.long p0), .second, .val (.long p1), .second, .val (.long p2), .second, .val (.long p3), .second, .val (.long p4), .second, .val (.int p5), .val (.long v86), .second, .val (.long v90), .second, .val (.long v94), .second, .val (.long v98), .second, .unset, .unset, .unset, .unset] [(.ref b101), (.ref b101)])) _
    refine XS.lloadN X101.here hx rfl (own_hb hby at_67) rfl ?_
    show Steps p.tables e below (T101.setTop (mkF m 68 #[.val (.long p0), .second, .val (.long p1), .second, .val (.long p2), .second, .val (.long p3), .second, .val (.long p4), .second, .val (.int p5), .val (.long v86), .second, .val (.long v90), .second, .val (.long v94), .second, .val (.long v98), .second, .unset, .unset, .unset, .unset] [(.long p0), (.ref b101), (.ref b101)])) _
    refine XS.lloadN X101.here hx rfl (own_hb hby at_68) rfl ?_
    show Steps p.tables e below (T101.setTop (mkF m 69 #[.val (.long p0), .second, .val (.long p1), .second, .val (.long p2), .second, .val (.long p3), .second, .val (.long p4), .second, .val (.int p5), .val (.long v86), .second, .val (.long v90), .second, .val (.long v94), .second, .val (.long v98), .second, .unset, .unset, .unset, .unset] [(.long p1), (.long p0), (.ref b101), (.ref b101)])) _
    refine XS.lload X101.here hx rfl (own_hb hby at_69) rfl ?_
    show Steps p.tables e below (T101.setTop (mkF m 71 #[.val (.long p0), .second, .val (.long p1), .second, .val (.long p2), .second, .val (.long p3), .second, .val (.long p4), .second, .val (.int p5), .val (.long v86), .second, .val (.long v90), .second, .val (.long v94), .second, .val (.long v98), .second, .unset, .unset, .unset, .unset] [(.long p2), (.long p1), (.long p0), (.ref b101), (.ref b101)])) _
    refine XS.lload X101.here hx rfl (own_hb hby at_71) rfl ?_
    exact kt
  obtain ⟨_, _, ⟨T108, L108, k108, n108⟩, -, X108, ⟨Lc108, hQ108, l108, y108, z108⟩, st108⟩ := X101.specialBack hx (y := (⟨"com/example/quayside/quayside/FileStamp", "<init>", "(JJJJ)V"⟩ : MethodName)) rfl hown (mvT hZ (hw _ (List.mem_of_getElem? (i := 3) rfl))) (mvT hZ (hw _ (List.mem_of_getElem? (i := 4) rfl))) (mvT hZ (hw _ (List.mem_of_getElem? (i := 5) rfl))) (by decide) (backOf (W := 1) (rm1 l Z a0 hw [] b101 p0 p1 p2 p3 (.long (0 : Int64)) (.long (0 : Int64)) (.long (0 : Int64)) (.long (0 : Int64)) h101 n0 z103 A101 f104 f105 f106 f107 gx101) hZ (hw _ (List.mem_of_getElem? (i := 5) rfl)) (hw _ (List.mem_of_getElem? (i := 2) rfl)) (by decide) (by decide)) (g := (mkF m 73 #[.val (.long p0), .second, .val (.long p1), .second, .val (.long p2), .second, .val (.long p3), .second, .val (.long p4), .second, .val (.int p5), .val (.long v86), .second, .val (.long v90), .second, .val (.long v94), .second, .val (.long v98), .second, .unset, .unset, .unset, .unset] [(.long p3), (.long p2), (.long p1), (.long p0), (.ref b101), (.ref b101)])) rfl (by rw [hml]; rfl) (Steps.refl _) (a := b101) (argsL := [(.long p0), (.long p1), (.long p2), (.long p3)]) (rest := [(.ref b101)]) (lenOf pd_2 rfl) rfl (by show 2 * 0 + _ ≤ _; exact Nat.le_of_eq rfl) (own_hb hby at_73) (fun _ _ => ⟨rfl, e101, (by decide : 1 + 0 ≤ _), (by decide : 4 + 0 ≤ _)⟩)
  dsimp only [Pt.U, Pt.locs, Pt.cells, Pt.slots] at X108 l108 y108 z108 st108 hQ108
  subst l108 y108 z108
  obtain ⟨rfl, N108q, K108, p108_0, p108_1, p108_2, p108_3, p108_4⟩ := hQ108
  have N108 := Fr.app N0 N108q
  refine own_Go.of (S' := (T108.setTop (mkF m 76 #[.val (.long p0), .second, .val (.long p1), .second, .val (.long p2), .second, .val (.long p3), .second, .val (.long p4), .second, .val (.int p5), .val (.long v86), .second, .val (.long v90), .second, .val (.long v94), .second, .val (.long v98), .second, .unset, .unset, .unset, .unset] [(.ref b101)]))) (fun t kt => st108.trans kt) ?_
  have f109 : Old Z n0 T108.heap := f102.keep K108 (allS gx101 all0)
  have f110 : Exa Z T108.heap b101 "com/example/quayside/quayside/FileStamp" := A101.keep K108
  have z111 : n0 ≤ T108.heap.size := Nat.le_trans z103 K108.1
  refine own_Go.of (S' := (T108.setTop (mkF m 78 #[.val (.long p0), .second, .val (.long p1), .second, .val (.long p2), .second, .val (.long p3), .second, .val (.long p4), .second, .val (.int p5), .val (.long v86), .second, .val (.long v90), .second, .val (.long v94), .second, .val (.long v98), .second, .val (.ref b101), .unset, .unset, .unset] []))) (fun t kt => ?_) ?_
  · show Steps p.tables e below (T108.setTop (mkF m 76 #[.val (.long p0), .second, .val (.long p1), .second, .val (.long p2), .second, .val (.long p3), .second, .val (.long p4), .second, .val (.int p5), .val (.long v86), .second, .val (.long v90), .second, .val (.long v94), .second, .val (.long v98), .second, .unset, .unset, .unset, .unset] [(.ref b101)])) _
    refine XS.astore X108.here hx rfl (own_hb hby at_76) rfl rfl (l' := #[.val (.long p0), .second, .val (.long p1), .second, .val (.long p2), .second, .val (.long p3), .second, .val (.long p4), .second, .val (.int p5), .val (.long v86), .second, .val (.long v90), .second, .val (.long v94), .second, .val (.long v98), .second, .val (.ref b101), .unset, .unset, .unset]) rfl ?_
    exact kt
  obtain ⟨T112, h112, X112, e112, E112, A112, D112, -, st112⟩ := newO X108 hx hZ hown (hw _ (List.mem_of_getElem? (i := 0) rfl)) (hw _ (List.mem_of_getElem? (i := 1) rfl)) (hw _ (List.mem_of_getElem? (i := 2) rfl)) rfl (g := (mkF m 78 #[.val (.long p0), .second, .val (.long p1), .second, .val (.long p2), .second, .val (.long p3), .second, .val (.long p4), .second, .val (.int p5), .val (.long v86), .second, .val (.long v90), .second, .val (.long v94), .second, .val (.long v98), .second, .val (.ref b101), .unset, .unset, .unset] [])) rfl (own_hb hby at_78) (by decide) (by decide)
  obtain ⟨b112, g112⟩ : ∃ z, z = T108.heap.size := ⟨_, rfl⟩
  rw [← g112] at A112 D112 st112
  have gx112 : n0 ≤ b112 := Nat.le_trans z111 (Nat.le_of_eq g112.symm)
  have ne113 : b101 ≠ b112 := Nat.ne_of_lt (Nat.lt_of_lt_of_le p108_0.lt (Nat.le_of_eq g112.symm))
  refine own_Go.of (S' := (T112.setTop (mkF m 81 #[.val (.long p0), .second, .val (.long p1), .second, .val (.long p2), .second, .val (.long p3), .second, .val (.long p4), .second, .val (.int p5), .val (.long v86), .second, .val (.long v90), .second, .val (.long v94), .second, .val (.long v98), .second, .val (.ref b101), .unset, .unset, .unset] [(.ref b112)]))) st112 ?_
  have f114 : Old Z n0 h112 := f109.ext E112
  have f115 : Exa Z h112 b101 "com/example/quayside/quayside/FileStamp" := p108_0.ext E112
  have f116 : Fld Z h112 b101 "com/example/quayside/quayside/FileStamp" "device" "J" (.long p0) := p108_1.ext E112
  have f117 : Fld Z h112 b101 "com/example/quayside/quayside/FileStamp" "inode" "J" (.long p1) := p108_2.ext E112
  have f118 : Fld Z h112 b101 "com/example/quayside/quayside/FileStamp" "size" "J" (.long p2) := p108_3.ext E112
  have f119 : Fld Z h112 b101 "com/example/quayside/quayside/FileStamp" "changed" "J" (.long p3) := p108_4.ext E112
  have z120 : n0 ≤ h112.size := Nat.le_trans z111 E112.1
  have f121 : Fld Z h112 b112 "com/example/quayside/quayside/FileStamp" "device" "J" (.long (0 : Int64)) := D112 (Or.inr (hw _ (List.mem_of_getElem? (i := 15) rfl))) (ty := .long) (by decide)
  have f122 : Fld Z h112 b112 "com/example/quayside/quayside/FileStamp" "inode" "J" (.long (0 : Int64)) := D112 (Or.inr (hw _ (List.mem_of_getElem? (i := 17) rfl))) (ty := .long) (by decide)
  have f123 : Fld Z h112 b112 "com/example/quayside/quayside/FileStamp" "size" "J" (.long (0 : Int64)) := D112 (Or.inr (hw _ (List.mem_of_getElem? (i := 19) rfl))) (ty := .long) (by decide)
  have f124 : Fld Z h112 b112 "com/example/quayside/quayside/FileStamp" "changed" "J" (.long (0 : Int64)) := D112 (Or.inr (hw _ (List.mem_of_getElem? (i := 21) rfl))) (ty := .long) (by decide)
  refine own_Go.of (S' := (T112.setTop (mkF m 90 #[.val (.long p0), .second, .val (.long p1), .second, .val (.long p2), .second, .val (.long p3), .second, .val (.long p4), .second, .val (.int p5), .val (.long v86), .second, .val (.long v90), .second, .val (.long v94), .second, .val (.long v98), .second, .val (.ref b101), .unset, .unset, .unset] [(.long v98), (.long v94), (.long v90), (.long v86), (.ref b112), (.ref b112)]))) (fun t kt => ?_) ?_
  · show Steps p.tables e below (T112.setTop (mkF m 81 #[.val (.long p0), .second, .val (.long p1), .second, .val (.long p2), .second, .val (.long p3), .second, .val (.long p4), .second, .val (.int p5), .val (.long v86), .second, .val (.long v90), .second, .val (.long v94), .second, .val (.long v98), .second, .val (.ref b101), .unset, .unset, .unset] [(.ref b112)])) _
    refine XS.dup X112.here hx rfl (own_hb hby at_81) rfl rfl ?_
    show Steps p.tables e below (T112.setTop (mkF m 82 #[.val (.long p0), .second, .val (.long p1), .second, .val (.long p2), .second, .val (.long p3), .second, .val (.long p4), .second, .val (.int p5), .val (.long v86), .second, .val (.long v90), .second, .val (.long v94), .second, .val (.long v98), .second, .val (.ref b101), .unset, .unset, .unset] [(.ref b112), (.ref b112)])) _
    refine XS.lload X112.here hx rfl (own_hb hby at_82) rfl ?_
    show Steps p.tables e below (T112.setTop (mkF m 84 #[.val (.long p0), .second, .val (.long p1), .second, .val (.long p2), .second, .val (.long p3), .second, .val (.long p4), .second, .val (.int p5), .val (.long v86), .second, .val (.long v90), .second, .val (.long v94), .second, .val (.long v98), .second, .val (.ref b101), .unset, .unset, .unset] [(.long v86), (.ref b112), (.ref b112)])) _
    refine XS.lload X112.here hx rfl (own_hb hby at_84) rfl ?_
    show Steps p.tables e below (T112.setTop (mkF m 86 #[.val (.long p0), .second, .val (.long p1), .second, .val (.long p2), .second, .val (.long p3), .second, .val (.long p4), .second, .val (.int p5), .val (.long v86), .second, .val (.long v90), .second, .val (.long v94), .second, .val (.long v98), .second, .val (.ref b101), .unset, .unset, .unset] [(.long v90), (.long v86), (.ref b112), (.ref b112)])) _
    refine XS.lload X112.here hx rfl (own_hb hby at_86) rfl ?_
    show Steps p.tables e below (T112.setTop (mkF m 88 #[.val (.long p0), .second, .val (.long p1), .second, .val (.long p2), .second, .val (.long p3), .second, .val (.long p4), .second, .val (.int p5), .val (.long v86), .second, .val (.long v90), .second, .val (.long v94), .second, .val (.long v98), .second, .val (.ref b101), .unset, .unset, .unset] [(.long v94), (.long v90), (.long v86), (.ref b112), (.ref b112)])) _
    refine XS.lload X112.here hx rfl (own_hb hby at_88) rfl ?_
    exact kt
  obtain ⟨_, _, ⟨T125, L125, k125, n125⟩, -, X125, ⟨Lc125, hQ125, l125, y125, z125⟩, st125⟩ := X112.specialBack hx (y := (⟨"com/example/quayside/quayside/FileStamp", "<init>", "(JJJJ)V"⟩ : MethodName)) rfl hown (mvT hZ (hw _ (List.mem_of_getElem? (i := 3) rfl))) (mvT hZ (hw _ (List.mem_of_getElem? (i := 4) rfl))) (mvT hZ (hw _ (List.mem_of_getElem? (i := 5) rfl))) (by decide) (backOf (W := 1) (rm1 l Z a0 hw [] b112 v86 v90 v94 v98 (.long (0 : Int64)) (.long (0 : Int64)) (.long (0 : Int64)) (.long (0 : Int64)) h112 n0 z120 A112 f121 f122 f123 f124 gx112) hZ (hw _ (List.mem_of_getElem? (i := 5) rfl)) (hw _ (List.mem_of_getElem? (i := 2) rfl)) (by decide) (by decide)) (g := (mkF m 90 #[.val (.long p0), .second, .val (.long p1), .second, .val (.long p2), .second, .val (.long p3), .second, .val (.long p4), .second, .val (.int p5), .val (.long v86), .second, .val (.long v90), .second, .val (.long v94), .second, .val (.long v98), .second, .val (.ref b101), .unset, .unset, .unset] [(.long v98), (.long v94), (.long v90), (.long v86), (.ref b112), (.ref b112)])) rfl (by rw [hml]; rfl) (Steps.refl _) (a := b112) (argsL := [(.long v86), (.long v90), (.long v94), (.long v98)]) (rest := [(.ref b112)]) (lenOf pd_2 rfl) rfl (by show 2 * 0 + _ ≤ _; exact Nat.le_of_eq rfl) (own_hb hby at_90) (fun _ _ => ⟨rfl, e112, (by decide : 2 + 0 ≤ _), (by decide : 8 + 0 ≤ _)⟩)
  dsimp only [Pt.U, Pt.locs, Pt.cells, Pt.slots] at X125 l125 y125 z125 st125 hQ125
  subst l125 y125 z125
  obtain ⟨rfl, N125q, K125, p125_0, p125_1, p125_2, p125_3, p125_4⟩ := hQ125
  have N125 := Fr.app N108 N125q
  refine own_Go.of (S' := (T125.setTop (mkF m 93 #[.val (.long p0), .second, .val (.long p1), .second, .val (.long p2), .second, .val (.long p3), .second, .val (.long p4), .second, .val (.int p5), .val (.long v86), .second, .val (.long v90), .second, .val (.long v94), .second, .val (.long v98), .second, .val (.ref b101), .unset, .unset, .unset] [(.ref b112)]))) (fun t kt => st125.trans kt) ?_
  have f126 : Old Z n0 T125.heap := f114.keep K125 (allS gx112 all0)
  have f127 : Exa Z T125.heap b101 "com/example/quayside/quayside/FileStamp" := f115.keep K125
  have f128 : Fld Z T125.heap b101 "com/example/quayside/quayside/FileStamp" "device" "J" (.long p0) := f116.keep K125 (ninS ne113 nin0)
  have f129 : Fld Z T125.heap b101 "com/example/quayside/quayside/FileStamp" "inode" "J" (.long p1) := f117.keep K125 (ninS ne113 nin0)
  have f130 : Fld Z T125.heap b101 "com/example/quayside/quayside/FileStamp" "size" "J" (.long p2) := f118.keep K125 (ninS ne113 nin0)
  have f131 : Fld Z T125.heap b101 "com/example/quayside/quayside/FileStamp" "changed" "J" (.long p3) := f119.keep K125 (ninS ne113 nin0)
  have f132 : Exa Z T125.heap b112 "com/example/quayside/quayside/FileStamp" := A112.keep K125
  have z133 : n0 ≤ T125.heap.size := Nat.le_trans z120 K125.1
  refine own_Go.of (S' := (T125.setTop (mkF m 106 #[.val (.long p0), .second, .val (.long p1), .second, .val (.long p2), .second, .val (.long p3), .second, .val (.long p4), .second, .val (.int p5), .val (.long v86), .second, .val (.long v90), .second, .val (.long v94), .second, .val (.long v98), .second, .val (.ref b101), .val (.ref b112), .val (.int (((p5.toUInt32 >>> ((4 : Int32) &&& 31).toUInt32).toInt32) &&& (3 : Int32))), .unset] [(.int (1 : Int32)), (.int (((p5.toUInt32 >>> ((4 : Int32) &&& 31).toUInt32).toInt32) &&& (3 : Int32)))]))) (fun t kt => ?_) ?_
  · show Steps p.tables e below (T125.setTop (mkF m 93 #[.val (.long p0), .second, .val (.long p1), .second, .val (.long p2), .second, .val (.long p3), .second, .val (.long p4), .second, .val (.int p5), .val (.long v86), .second, .val (.long v90), .second, .val (.long v94), .second, .val (.long v98), .second, .val (.ref b101), .unset, .unset, .unset] [(.ref b112)])) _
    refine XS.astore X125.here hx rfl (own_hb hby at_93) rfl rfl (l' := #[.val (.long p0), .second, .val (.long p1), .second, .val (.long p2), .second, .val (.long p3), .second, .val (.long p4), .second, .val (.int p5), .val (.long v86), .second, .val (.long v90), .second, .val (.long v94), .second, .val (.long v98), .second, .val (.ref b101), .val (.ref b112), .unset, .unset]) rfl ?_
    show Steps p.tables e below (T125.setTop (mkF m 95 #[.val (.long p0), .second, .val (.long p1), .second, .val (.long p2), .second, .val (.long p3), .second, .val (.long p4), .second, .val (.int p5), .val (.long v86), .second, .val (.long v90), .second, .val (.long v94), .second, .val (.long v98), .second, .val (.ref b101), .val (.ref b112), .unset, .unset] [])) _
    refine XS.iload X125.here hx rfl (own_hb hby at_95) rfl ?_
    show Steps p.tables e below (T125.setTop (mkF m 97 #[.val (.long p0), .second, .val (.long p1), .second, .val (.long p2), .second, .val (.long p3), .second, .val (.long p4), .second, .val (.int p5), .val (.long v86), .second, .val (.long v90), .second, .val (.long v94), .second, .val (.long v98), .second, .val (.ref b101), .val (.ref b112), .unset, .unset] [(.int p5)])) _
    refine XS.iconst X125.here hx rfl (own_hb hby at_97) ?_
    show Steps p.tables e below (T125.setTop (mkF m 98 #[.val (.long p0), .second, .val (.long p1), .second, .val (.long p2), .second, .val (.long p3), .second, .val (.long p4), .second, .val (.int p5), .val (.long v86), .second, .val (.long v90), .second, .val (.long v94), .second, .val (.long v98), .second, .val (.ref b101), .val (.ref b112), .unset, .unset] [(.int (4 : Int32)), (.int p5)])) _
    refine XS.iushr X125.here hx rfl (own_hb hby at_98) rfl ?_
    show Steps p.tables e below (T125.setTop (mkF m 99 #[.val (.long p0), .second, .val (.long p1), .second, .val (.long p2), .second, .val (.long p3), .second, .val (.long p4), .second, .val (.int p5), .val (.long v86), .second, .val (.long v90), .second, .val (.long v94), .second, .val (.long v98), .second, .val (.ref b101), .val (.ref b112), .unset, .unset] [(.int ((p5.toUInt32 >>> ((4 : Int32) &&& 31).toUInt32).toInt32))])) _
    refine XS.iconst X125.here hx rfl (own_hb hby at_99) ?_
    show Steps p.tables e below (T125.setTop (mkF m 100 #[.val (.long p0), .second, .val (.long p1), .second, .val (.long p2), .second, .val (.long p3), .second, .val (.long p4), .second, .val (.int p5), .val (.long v86), .second, .val (.long v90), .second, .val (.long v94), .second, .val (.long v98), .second, .val (.ref b101), .val (.ref b112), .unset, .unset] [(.int (3 : Int32)), (.int ((p5.toUInt32 >>> ((4 : Int32) &&& 31).toUInt32).toInt32))])) _
    refine XS.iand X125.here hx rfl (own_hb hby at_100) rfl ?_
    show Steps p.tables e below (T125.setTop (mkF m 101 #[.val (.long p0), .second, .val (.long p1), .second, .val (.long p2), .second, .val (.long p3), .second, .val (.long p4), .second, .val (.int p5), .val (.long v86), .second, .val (.long v90), .second, .val (.long v94), .second, .val (.long v98), .second, .val (.ref b101), .val (.ref b112), .unset, .unset] [(.int (((p5.toUInt32 >>> ((4 : Int32) &&& 31).toUInt32).toInt32) &&& (3 : Int32)))])) _
    refine XS.istore X125.here hx rfl (own_hb hby at_101) rfl (l' := #[.val (.long p0), .second, .val (.long p1), .second, .val (.long p2), .second, .val (.long p3), .second, .val (.long p4), .second, .val (.int p5), .val (.long v86), .second, .val (.long v90), .second, .val (.long v94), .second, .val (.long v98), .second, .val (.ref b101), .val (.ref b112), .val (.int (((p5.toUInt32 >>> ((4 : Int32) &&& 31).toUInt32).toInt32) &&& (3 : Int32))), .unset]) rfl ?_
    show Steps p.tables e below (T125.setTop (mkF m 103 #[.val (.long p0), .second, .val (.long p1), .second, .val (.long p2), .second, .val (.long p3), .second, .val (.long p4), .second, .val (.int p5), .val (.long v86), .second, .val (.long v90), .second, .val (.long v94), .second, .val (.long v98), .second, .val (.ref b101), .val (.ref b112), .val (.int (((p5.toUInt32 >>> ((4 : Int32) &&& 31).toUInt32).toInt32) &&& (3 : Int32))), .unset] [])) _
    refine XS.iload X125.here hx rfl (own_hb hby at_103) rfl ?_
    show Steps p.tables e below (T125.setTop (mkF m 105 #[.val (.long p0), .second, .val (.long p1), .second, .val (.long p2), .second, .val (.long p3), .second, .val (.long p4), .second, .val (.int p5), .val (.long v86), .second, .val (.long v90), .second, .val (.long v94), .second, .val (.long v98), .second, .val (.ref b101), .val (.ref b112), .val (.int (((p5.toUInt32 >>> ((4 : Int32) &&& 31).toUInt32).toInt32) &&& (3 : Int32))), .unset] [(.int (((p5.toUInt32 >>> ((4 : Int32) &&& 31).toUInt32).toInt32) &&& (3 : Int32)))])) _
    refine XS.iconst X125.here hx rfl (own_hb hby at_105) ?_
    exact kt
  by_cases hc106_134 : (((p5.toUInt32 >>> ((4 : Int32) &&& 31).toUInt32).toInt32) &&& (3 : Int32)) = (1 : Int32)
  · skip
    refine own_Go.of (S' := (T125.setTop (mkF m 112 #[.val (.long p0), .second, .val (.long p1), .second, .val (.long p2), .second, .val (.long p3), .second, .val (.long p4), .second, .val (.int p5), .val (.long v86), .second, .val (.long v90), .second, .val (.long v94), .second, .val (.long v98), .second, .val (.ref b101), .val (.ref b112), .val (.int (((p5.toUInt32 >>> ((4 : Int32) &&& 31).toUInt32).toInt32) &&& (3 : Int32))), .unset] [.null, (.ref b101)]))) (fun t kt => ?_) ?_
    · show Steps p.tables e below (T125.setTop (mkF m 106 #[.val (.long p0), .second, .val (.long p1), .second, .val (.long p2), .second, .val (.long p3), .second, .val (.long p4), .second, .val (.int p5), .val (.long v86), .second, .val (.long v90), .second, .val (.long v94), .second, .val (.long v98), .second, .val (.ref b101), .val (.ref b112), .val (.int (((p5.toUInt32 >>> ((4 : Int32) &&& 31).toUInt32).toInt32) &&& (3 : Int32))), .unset] [(.int (1 : Int32)), (.int (((p5.toUInt32 >>> ((4 : Int32) &&& 31).toUInt32).toInt32) &&& (3 : Int32)))])) _
      refine XS.icmpNo X125.here hx rfl (own_hb hby at_106) rfl (teq hc106_134).2 ?_
      show Steps p.tables e below (T125.setTop (mkF m 109 #[.val (.long p0), .second, .val (.long p1), .second, .val (.long p2), .second, .val (.long p3), .second, .val (.long p4), .second, .val (.int p5), .val (.long v86), .second, .val (.long v90), .second, .val (.long v94), .second, .val (.long v98), .second, .val (.ref b101), .val (.ref b112), .val (.int (((p5.toUInt32 >>> ((4 : Int32) &&& 31).toUInt32).toInt32) &&& (3 : Int32))), .unset] [])) _
      refine XS.aload X125.here hx rfl (own_hb hby at_109) rfl rfl ?_
      show Steps p.tables e below (T125.setTop (mkF m 111 #[.val (.long p0), .second, .val (.long p1), .second, .val (.long p2), .second, .val (.long p3), .second, .val (.long p4), .second, .val (.int p5), .val (.long v86), .second, .val (.long v90), .second, .val (.long v94), .second, .val (.long v98), .second, .val (.ref b101), .val (.ref b112), .val (.int (((p5.toUInt32 >>> ((4 : Int32) &&& 31).toUInt32).toInt32) &&& (3 : Int32))), .unset] [(.ref b101)])) _
      refine XS.aconstNull X125.here hx rfl (own_hb hby at_111) ?_
      exact kt
    obtain ⟨cq135, kq135, q135a, q135b, q135c⟩ := isOf hZ rfl f127
    obtain ⟨_, _, ⟨T135, L135, k135, n135⟩, -, X135, ⟨Lc135, hQ135, l135, y135, z135⟩, st135⟩ := X125.virtualBack hx (y := (⟨"com/example/quayside/quayside/FileStamp", "equals", "(Ljava/lang/Object;)Z"⟩ : MethodName)) (z := (⟨"com/example/quayside/quayside/FileStamp", "equals", "(Ljava/lang/Object;)Z"⟩ : MethodName)) hown (mvT hZ (hw _ (List.mem_of_getElem? (i := 22) rfl))) (mvT hZ (hw _ (List.mem_of_getElem? (i := 23) rfl))) (notFace_of_selects (args := #[]) (mvT hZ (hw _ (List.mem_of_getElem? (i := 25) rfl)))) (mvT hZ (hw _ (List.mem_of_getElem? (i := 25) rfl))) (mvT hZ (hw _ (List.mem_of_getElem? (i := 24) rfl))) (by decide) (backOf (W := 0) (rm4n l Z a0 hw [] b101 T125.heap n0 z133 ) hZ (hw _ (List.mem_of_getElem? (i := 26) rfl)) (hw _ (List.mem_of_getElem? (i := 2) rfl)) (by decide) (by decide)) q135a q135c (g := (mkF m 112 #[.val (.long p0), .second, .val (.long p1), .second, .val (.long p2), .second, .val (.long p3), .second, .val (.long p4), .second, .val (.int p5), .val (.long v86), .second, .val (.long v90), .second, .val (.long v94), .second, .val (.long v98), .second, .val (.ref b101), .val (.ref b112), .val (.int (((p5.toUInt32 >>> ((4 : Int32) &&& 31).toUInt32).toInt32) &&& (3 : Int32))), .unset] [.null, (.ref b101)])) rfl (by rw [hml]; rfl) (Steps.refl _) (argsL := [.null]) (rest := []) (lenOf pd_3 rfl) rfl (by show 2 * 0 + _ ≤ _; exact Nat.le_of_eq rfl) (own_hb hby at_112) (fun _ _ => ⟨rfl, rfl, (by decide : 2 + 0 ≤ _), (by decide : 8 + 0 ≤ _)⟩)
    dsimp only [Pt.U, Pt.locs, Pt.cells, Pt.slots] at X135 l135 y135 z135 st135 hQ135
    subst l135 y135 z135
    obtain ⟨rfl, N135q, hh135⟩ := hQ135
    have N135 := Fr.app N125 N135q
    refine own_Go.of (S' := (T135.setTop (mkF m 115 #[.val (.long p0), .second, .val (.long p1), .second, .val (.long p2), .second, .val (.long p3), .second, .val (.long p4), .second, .val (.int p5), .val (.long v86), .second, .val (.long v90), .second, .val (.long v94), .second, .val (.long v98), .second, .val (.ref b101), .val (.ref b112), .val (.int (((p5.toUInt32 >>> ((4 : Int32) &&& 31).toUInt32).toInt32) &&& (3 : Int32))), .unset] [(.int (0 : Int32))]))) (fun t kt => st135.trans kt) ?_
    refine own_Go.of (S' := (T135.setTop (mkF m 123 #[.val (.long p0), .second, .val (.long p1), .second, .val (.long p2), .second, .val (.long p3), .second, .val (.long p4), .second, .val (.int p5), .val (.long v86), .second, .val (.long v90), .second, .val (.long v94), .second, .val (.long v98), .second, .val (.ref b101), .val (.ref b112), .val (.int (((p5.toUInt32 >>> ((4 : Int32) &&& 31).toUInt32).toInt32) &&& (3 : Int32))), .unset] [(.int (1 : Int32))]))) (fun t kt => ?_) ?_
    · show Steps p.tables e below (T135.setTop (mkF m 115 #[.val (.long p0), .second, .val (.long p1), .second, .val (.long p2), .second, .val (.long p3), .second, .val (.long p4), .second, .val (.int p5), .val (.long v86), .second, .val (.long v90), .second, .val (.long v94), .second, .val (.long v98), .second, .val (.ref b101), .val (.ref b112), .val (.int (((p5.toUInt32 >>> ((4 : Int32) &&& 31).toUInt32).toInt32) &&& (3 : Int32))), .unset] [(.int (0 : Int32))])) _
      refine XS.ifNo X135.here hx rfl (own_hb hby at_115) rfl ((if0 _ _).trans (teq (rfl : (0 : Int32) = 0)).2) ?_
      show Steps p.tables e below (T135.setTop (mkF m 118 #[.val (.long p0), .second, .val (.long p1), .second, .val (.long p2), .second, .val (.long p3), .second, .val (.long p4), .second, .val (.int p5), .val (.long v86), .second, .val (.long v90), .second, .val (.long v94), .second, .val (.long v98), .second, .val (.ref b101), .val (.ref b112), .val (.int (((p5.toUInt32 >>> ((4 : Int32) &&& 31).toUInt32).toInt32) &&& (3 : Int32))), .unset] [])) _
      refine XS.iconst X135.here hx rfl (own_hb hby at_118) ?_
      show Steps p.tables e below (T135.setTop (mkF m 119 #[.val (.long p0), .second, .val (.long p1), .second, .val (.long p2), .second, .val (.long p3), .second, .val (.long p4), .second, .val (.int p5), .val (.long v86), .second, .val (.long v90), .second, .val (.long v94), .second, .val (.long v98), .second, .val (.ref b101), .val (.ref b112), .val (.int (((p5.toUInt32 >>> ((4 : Int32) &&& 31).toUInt32).toInt32) &&& (3 : Int32))), .unset] [(.int (1 : Int32))])) _
      refine XS.goto X135.here hx rfl (pc0 := 119) (pc' := 123) rfl (own_hb hby at_119) (by decide) (by decide) ?_
      exact kt
    exact own_retN X135 hx hlk (t := .boolean) hret (by simp) (own_hb hby at_123) hh135 ⟨rfl, N135⟩ (by decide) (by decide)
  · skip
    refine own_Go.of (S' := (T125.setTop (mkF m 127 #[.val (.long p0), .second, .val (.long p1), .second, .val (.long p2), .second, .val (.long p3), .second, .val (.long p4), .second, .val (.int p5), .val (.long v86), .second, .val (.long v90), .second, .val (.long v94), .second, .val (.long v98), .second, .val (.ref b101), .val (.ref b112), .val (.int (((p5.toUInt32 >>> ((4 : Int32) &&& 31).toUInt32).toInt32) &&& (3 : Int32))), .unset] [(.int (2 : Int32)), (.int (((p5.toUInt32 >>> ((4 : Int32) &&& 31).toUInt32).toInt32) &&& (3 : Int32)))]))) (fun t kt => ?_) ?_
    · show Steps p.tables e below (T125.setTop (mkF m 106 #[.val (.long p0), .second, .val (.long p1), .second, .val (.long p2), .second, .val (.long p3), .second, .val (.long p4), .second, .val (.int p5), .val (.long v86), .second, .val (.long v90), .second, .val (.long v94), .second, .val (.long v98), .second, .val (.ref b101), .val (.ref b112), .val (.int (((p5.toUInt32 >>> ((4 : Int32) &&& 31).toUInt32).toInt32) &&& (3 : Int32))), .unset] [(.int (1 : Int32)), (.int (((p5.toUInt32 >>> ((4 : Int32) &&& 31).toUInt32).toInt32) &&& (3 : Int32)))])) _
      refine XS.icmpYes X125.here hx rfl (pc0 := 106) (pc' := 124) rfl (own_hb hby at_106) rfl (feq hc106_134).2 (by decide) (by decide) ?_
      show Steps p.tables e below (T125.setTop (mkF m 124 #[.val (.long p0), .second, .val (.long p1), .second, .val (.long p2), .second, .val (.long p3), .second, .val (.long p4), .second, .val (.int p5), .val (.long v86), .second, .val (.long v90), .second, .val (.long v94), .second, .val (.long v98), .second, .val (.ref b101), .val (.ref b112), .val (.int (((p5.toUInt32 >>> ((4 : Int32) &&& 31).toUInt32).toInt32) &&& (3 : Int32))), .unset] [])) _
      refine XS.iload X125.here hx rfl (own_hb hby at_124) rfl ?_
      show Steps p.tables e below (T125.setTop (mkF m 126 #[.val (.long p0), .second, .val (.long p1), .second, .val (.long p2), .second, .val (.long p3), .second, .val (.long p4), .second, .val (.int p5), .val (.long v86), .second, .val (.long v90), .second, .val (.long v94), .second, .val (.long v98), .second, .val (.ref b101), .val (.ref b112), .val (.int (((p5.toUInt32 >>> ((4 : Int32) &&& 31).toUInt32).toInt32) &&& (3 : Int32))), .unset] [(.int (((p5.toUInt32 >>> ((4 : Int32) &&& 31).toUInt32).toInt32) &&& (3 : Int32)))])) _
      refine XS.iconst X125.here hx rfl (own_hb hby at_126) ?_
      exact kt
    by_cases hc127_136 : (((p5.toUInt32 >>> ((4 : Int32) &&& 31).toUInt32).toInt32) &&& (3 : Int32)) = (2 : Int32)
    · skip
      refine own_Go.of (S' := (T125.setTop (mkF m 133 #[.val (.long p0), .second, .val (.long p1), .second, .val (.long p2), .second, .val (.long p3), .second, .val (.long p4), .second, .val (.int p5), .val (.long v86), .second, .val (.long v90), .second, .val (.long v94), .second, .val (.long v98), .second, .val (.ref b101), .val (.ref b112), .val (.int (((p5.toUInt32 >>> ((4 : Int32) &&& 31).toUInt32).toInt32) &&& (3 : Int32))), .unset] [(.long p0), (.ref b101)]))) (fun t kt => ?_) ?_
      · show Steps p.tables e below (T125.setTop (mkF m 127 #[.val (.long p0), .second, .val (.long p1), .second, .val (.long p2), .second, .val (.long p3), .second, .val (.long p4), .second, .val (.int p5), .val (.long v86), .second, .val (.long v90), .second, .val (.long v94), .second, .val (.long v98), .second, .val (.ref b101), .val (.ref b112), .val (.int (((p5.toUInt32 >>> ((4 : Int32) &&& 31).toUInt32).toInt32) &&& (3 : Int32))), .unset] [(.int (2 : Int32)), (.int (((p5.toUInt32 >>> ((4 : Int32) &&& 31).toUInt32).toInt32) &&& (3 : Int32)))])) _
        refine XS.icmpNo X125.here hx rfl (own_hb hby at_127) rfl (teq hc127_136).2 ?_
        show Steps p.tables e below (T125.setTop (mkF m 130 #[.val (.long p0), .second, .val (.long p1), .second, .val (.long p2), .second, .val (.long p3), .second, .val (.long p4), .second, .val (.int p5), .val (.long v86), .second, .val (.long v90), .second, .val (.long v94), .second, .val (.long v98), .second, .val (.ref b101), .val (.ref b112), .val (.int (((p5.toUInt32 >>> ((4 : Int32) &&& 31).toUInt32).toInt32) &&& (3 : Int32))), .unset] [])) _
        refine XS.aload X125.here hx rfl (own_hb hby at_130) rfl rfl ?_
        show Steps p.tables e below (T125.setTop (mkF m 132 #[.val (.long p0), .second, .val (.long p1), .second, .val (.long p2), .second, .val (.long p3), .second, .val (.long p4), .second, .val (.int p5), .val (.long v86), .second, .val (.long v90), .second, .val (.long v94), .second, .val (.long v98), .second, .val (.ref b101), .val (.ref b112), .val (.int (((p5.toUInt32 >>> ((4 : Int32) &&& 31).toUInt32).toInt32) &&& (3 : Int32))), .unset] [(.ref b101)])) _
        refine XS.lloadN X125.here hx rfl (own_hb hby at_132) rfl ?_
        exact kt
      have hS1 := hS.ext f126.2
      have hA1 := hA.ext f126.2
      have hC1 : ∀ i, i < 256 → ∃ b : Addr, fc i = .ref b ∧ Exa Z T125.heap b "java/lang/Long" := fun i hi => by obtain ⟨b, q1, q2⟩ := hC i hi; exact ⟨b, q1, q2.ext f126.2⟩
      obtain ⟨_, _, ⟨T137, L137, k137, n137⟩, -, X137, ⟨Lc137, hQ137, l137, y137, z137⟩, st137⟩ := Jvm.LawKit.callS X125 hx (y := (⟨"java/lang/Long", "valueOf", "(J)Ljava/lang/Long;"⟩ : MethodName)) hown (mvT hZ (hw _ (List.mem_of_getElem? (i := 29) rfl))) (mvT hZ (hw _ (List.mem_of_getElem? (i := 30) rfl))) (mvT hZ (hw _ (List.mem_of_getElem? (i := 31) rfl))) (mvT hZ (hw _ (List.mem_of_getElem? (i := 32) rfl))) (by decide) (backOf (W := 1) (rm5 l Z a0 hw [] p0 rc fc T125.heap n0 z133 hS1 hA1 hC1) hZ (hw _ (List.mem_of_getElem? (i := 32) rfl)) (hw _ (List.mem_of_getElem? (i := 31) rfl)) (by decide) (by decide)) (g := (mkF m 133 #[.val (.long p0), .second, .val (.long p1), .second, .val (.long p2), .second, .val (.long p3), .second, .val (.long p4), .second, .val (.int p5), .val (.long v86), .second, .val (.long v90), .second, .val (.long v94), .second, .val (.long v98), .second, .val (.ref b101), .val (.ref b112), .val (.int (((p5.toUInt32 >>> ((4 : Int32) &&& 31).toUInt32).toInt32) &&& (3 : Int32))), .unset] [(.long p0), (.ref b101)])) rfl (by rw [hml]; rfl) (argsL := [(.long p0)]) (rest := [(.ref b101)]) (lenOf pd_4 rfl) rfl (by show 2 * 0 + _ ≤ _; exact Nat.le_of_eq rfl) (own_hb hby at_133) (fun _ _ => ⟨rfl, rfl, (by decide : 2 + 1 ≤ _), (by decide : 8 + 1 ≤ _)⟩)
      dsimp only [Pt.U, Pt.locs, Pt.cells, Pt.slots] at X137 l137 y137 z137 st137 hQ137
      subst l137 y137 z137
      obtain ⟨r137, rfl, N137q, K137, p137_0⟩ := hQ137
      have N137 := Fr.app N125 N137q
      refine own_Go.of (S' := (T137.setTop (mkF m 136 #[.val (.long p0), .second, .val (.long p1), .second, .val (.long p2), .second, .val (.long p3), .second, .val (.long p4), .second, .val (.int p5), .val (.long v86), .second, .val (.long v90), .second, .val (.long v94), .second, .val (.long v98), .second, .val (.ref b101), .val (.ref b112), .val (.int (((p5.toUInt32 >>> ((4 : Int32) &&& 31).toUInt32).toInt32) &&& (3 : Int32))), .unset] [(.ref r137), (.ref b101)]))) (fun t kt => st137 t kt) ?_
      have f138 : Old Z n0 T137.heap := f126.keep K137 all0
      have f139 : Exa Z T137.heap b101 "com/example/quayside/quayside/FileStamp" := f127.keep K137
      have f140 : Fld Z T137.heap b101 "com/example/quayside/quayside/FileStamp" "device" "J" (.long p0) := f128.keep K137 nin0
      have f141 : Fld Z T137.heap b101 "com/example/quayside/quayside/FileStamp" "inode" "J" (.long p1) := f129.keep K137 nin0
      have f142 : Fld Z T137.heap b101 "com/example/quayside/quayside/FileStamp" "size" "J" (.long p2) := f130.keep K137 nin0
      have f143 : Fld Z T137.heap b101 "com/example/quayside/quayside/FileStamp" "changed" "J" (.long p3) := f131.keep K137 nin0
      have f144 : Exa Z T137.heap b112 "com/example/quayside/quayside/FileStamp" := p125_0.keep K137
      have f145 : Fld Z T137.heap b112 "com/example/quayside/quayside/FileStamp" "device" "J" (.long v86) := p125_1.keep K137 nin0
      have f146 : Fld Z T137.heap b112 "com/example/quayside/quayside/FileStamp" "inode" "J" (.long v90) := p125_2.keep K137 nin0
      have f147 : Fld Z T137.heap b112 "com/example/quayside/quayside/FileStamp" "size" "J" (.long v94) := p125_3.keep K137 nin0
      have f148 : Fld Z T137.heap b112 "com/example/quayside/quayside/FileStamp" "changed" "J" (.long v98) := p125_4.keep K137 nin0
      have f149 : own_Ar Z T137.heap rc (.object "java/lang/Long") 256 fc := hA1.keep K137 nin0
      have z150 : n0 ≤ T137.heap.size := Nat.le_trans z133 K137.1
      obtain ⟨cq151, kq151, q151a, q151b, q151c⟩ := isOf hZ rfl f139
      obtain ⟨_, _, ⟨T151, L151, k151, n151⟩, -, X151, ⟨Lc151, hQ151, l151, y151, z151⟩, st151⟩ := X137.virtualBack hx (y := (⟨"com/example/quayside/quayside/FileStamp", "equals", "(Ljava/lang/Object;)Z"⟩ : MethodName)) (z := (⟨"com/example/quayside/quayside/FileStamp", "equals", "(Ljava/lang/Object;)Z"⟩ : MethodName)) hown (mvT hZ (hw _ (List.mem_of_getElem? (i := 22) rfl))) (mvT hZ (hw _ (List.mem_of_getElem? (i := 23) rfl))) (notFace_of_selects (args := #[]) (mvT hZ (hw _ (List.mem_of_getElem? (i := 25) rfl)))) (mvT hZ (hw _ (List.mem_of_getElem? (i := 25) rfl))) (mvT hZ (hw _ (List.mem_of_getElem? (i := 24) rfl))) (by decide) (backOf (W := 0) (rm4l l Z a0 hw [] b101 r137 T137.heap n0 z150 p137_0) hZ (hw _ (List.mem_of_getElem? (i := 26) rfl)) (hw _ (List.mem_of_getElem? (i := 2) rfl)) (by decide) (by decide)) q151a q151c (g := (mkF m 136 #[.val (.long p0), .second, .val (.long p1), .second, .val (.long p2), .second, .val (.long p3), .second, .val (.long p4), .second, .val (.int p5), .val (.long v86), .second, .val (.long v90), .second, .val (.long v94), .second, .val (.long v98), .second, .val (.ref b101), .val (.ref b112), .val (.int (((p5.toUInt32 >>> ((4 : Int32) &&& 31).toUInt32).toInt32) &&& (3 : Int32))), .unset] [(.ref r137), (.ref b101)])) rfl (by rw [hml]; rfl) (Steps.refl _) (argsL := [(.ref r137)]) (rest := []) (lenOf pd_3 rfl) rfl (by show 2 * 0 + _ ≤ _; exact Nat.le_of_eq rfl) (own_hb hby at_136) (fun _ _ => ⟨rfl, rfl, (by decide : 3 + 0 ≤ _), (by decide : 9 + 0 ≤ _)⟩)
      dsimp only [Pt.U, Pt.locs, Pt.cells, Pt.slots] at X151 l151 y151 z151 st151 hQ151
      subst l151 y151 z151
      obtain ⟨rfl, N151q, hh151⟩ := hQ151
      have N151 := Fr.app N137 N151q
      refine own_Go.of (S' := (T151.setTop (mkF m 139 #[.val (.long p0), .second, .val (.long p1), .second, .val (.long p2), .second, .val (.long p3), .second, .val (.long p4), .second, .val (.int p5), .val (.long v86), .second, .val (.long v90), .second, .val (.long v94), .second, .val (.long v98), .second, .val (.ref b101), .val (.ref b112), .val (.int (((p5.toUInt32 >>> ((4 : Int32) &&& 31).toUInt32).toInt32) &&& (3 : Int32))), .unset] [(.int (0 : Int32))]))) (fun t kt => st151.trans kt) ?_
      refine own_Go.of (S' := (T151.setTop (mkF m 147 #[.val (.long p0), .second, .val (.long p1), .second, .val (.long p2), .second, .val (.long p3), .second, .val (.long p4), .second, .val (.int p5), .val (.long v86), .second, .val (.long v90), .second, .val (.long v94), .second, .val (.long v98), .second, .val (.ref b101), .val (.ref b112), .val (.int (((p5.toUInt32 >>> ((4 : Int32) &&& 31).toUInt32).toInt32) &&& (3 : Int32))), .unset] [(.int (1 : Int32))]))) (fun t kt => ?_) ?_
      · show Steps p.tables e below (T151.setTop (mkF m 139 #[.val (.long p0), .second, .val (.long p1), .second, .val (.long p2), .second, .val (.long p3), .second, .val (.long p4), .second, .val (.int p5), .val (.long v86), .second, .val (.long v90), .second, .val (.long v94), .second, .val (.long v98), .second, .val (.ref b101), .val (.ref b112), .val (.int (((p5.toUInt32 >>> ((4 : Int32) &&& 31).toUInt32).toInt32) &&& (3 : Int32))), .unset] [(.int (0 : Int32))])) _
        refine XS.ifNo X151.here hx rfl (own_hb hby at_139) rfl ((if0 _ _).trans (teq (rfl : (0 : Int32) = 0)).2) ?_
        show Steps p.tables e below (T151.setTop (mkF m 142 #[.val (.long p0), .second, .val (.long p1), .second, .val (.long p2), .second, .val (.long p3), .second, .val (.long p4), .second, .val (.int p5), .val (.long v86), .second, .val (.long v90), .second, .val (.long v94), .second, .val (.long v98), .second, .val (.ref b101), .val (.ref b112), .val (.int (((p5.toUInt32 >>> ((4 : Int32) &&& 31).toUInt32).toInt32) &&& (3 : Int32))), .unset] [])) _
        refine XS.iconst X151.here hx rfl (own_hb hby at_142) ?_
        show Steps p.tables e below (T151.setTop (mkF m 143 #[.val (.long p0), .second, .val (.long p1), .second, .val (.long p2), .second, .val (.long p3), .second, .val (.long p4), .second, .val (.int p5), .val (.long v86), .second, .val (.long v90), .second, .val (.long v94), .second, .val (.long v98), .second, .val (.ref b101), .val (.ref b112), .val (.int (((p5.toUInt32 >>> ((4 : Int32) &&& 31).toUInt32).toInt32) &&& (3 : Int32))), .unset] [(.int (1 : Int32))])) _
        refine XS.goto X151.here hx rfl (pc0 := 143) (pc' := 147) rfl (own_hb hby at_143) (by decide) (by decide) ?_
        exact kt
      exact own_retN X151 hx hlk (t := .boolean) hret (by simp) (own_hb hby at_147) hh151 ⟨rfl, N151⟩ (by decide) (by decide)
    · skip
      refine own_Go.of (S' := (T125.setTop (mkF m 151 #[.val (.long p0), .second, .val (.long p1), .second, .val (.long p2), .second, .val (.long p3), .second, .val (.long p4), .second, .val (.int p5), .val (.long v86), .second, .val (.long v90), .second, .val (.long v94), .second, .val (.long v98), .second, .val (.ref b101), .val (.ref b112), .val (.int (((p5.toUInt32 >>> ((4 : Int32) &&& 31).toUInt32).toInt32) &&& (3 : Int32))), .unset] [(.int (3 : Int32)), (.int (((p5.toUInt32 >>> ((4 : Int32) &&& 31).toUInt32).toInt32) &&& (3 : Int32)))]))) (fun t kt => ?_) ?_
      · show Steps p.tables e below (T125.setTop (mkF m 127 #[.val (.long p0), .second, .val (.long p1), .second, .val (.long p2), .second, .val (.long p3), .second, .val (.long p4), .second, .val (.int p5), .val (.long v86), .second, .val (.long v90), .second, .val (.long v94), .second, .val (.long v98), .second, .val (.ref b101), .val (.ref b112), .val (.int (((p5.toUInt32 >>> ((4 : Int32) &&& 31).toUInt32).toInt32) &&& (3 : Int32))), .unset] [(.int (2 : Int32)), (.int (((p5.toUInt32 >>> ((4 : Int32) &&& 31).toUInt32).toInt32) &&& (3 : Int32)))])) _
        refine XS.icmpYes X125.here hx rfl (pc0 := 127) (pc' := 148) rfl (own_hb hby at_127) rfl (feq hc127_136).2 (by decide) (by decide) ?_
        show Steps p.tables e below (T125.setTop (mkF m 148 #[.val (.long p0), .second, .val (.long p1), .second, .val (.long p2), .second, .val (.long p3), .second, .val (.long p4), .second, .val (.int p5), .val (.long v86), .second, .val (.long v90), .second, .val (.long v94), .second, .val (.long v98), .second, .val (.ref b101), .val (.ref b112), .val (.int (((p5.toUInt32 >>> ((4 : Int32) &&& 31).toUInt32).toInt32) &&& (3 : Int32))), .unset] [])) _
        refine XS.iload X125.here hx rfl (own_hb hby at_148) rfl ?_
        show Steps p.tables e below (T125.setTop (mkF m 150 #[.val (.long p0), .second, .val (.long p1), .second, .val (.long p2), .second, .val (.long p3), .second, .val (.long p4), .second, .val (.int p5), .val (.long v86), .second, .val (.long v90), .second, .val (.long v94), .second, .val (.long v98), .second, .val (.ref b101), .val (.ref b112), .val (.int (((p5.toUInt32 >>> ((4 : Int32) &&& 31).toUInt32).toInt32) &&& (3 : Int32))), .unset] [(.int (((p5.toUInt32 >>> ((4 : Int32) &&& 31).toUInt32).toInt32) &&& (3 : Int32)))])) _
        refine XS.iconst X125.here hx rfl (own_hb hby at_150) ?_
        exact kt
      by_cases hc151_152 : (((p5.toUInt32 >>> ((4 : Int32) &&& 31).toUInt32).toInt32) &&& (3 : Int32)) = (3 : Int32)
      · skip
        refine own_Go.of (S' := (T125.setTop (mkF m 158 #[.val (.long p0), .second, .val (.long p1), .second, .val (.long p2), .second, .val (.long p3), .second, .val (.long p4), .second, .val (.int p5), .val (.long v86), .second, .val (.long v90), .second, .val (.long v94), .second, .val (.long v98), .second, .val (.ref b101), .val (.ref b112), .val (.int (((p5.toUInt32 >>> ((4 : Int32) &&& 31).toUInt32).toInt32) &&& (3 : Int32))), .unset] [(.ref b101), (.ref b101)]))) (fun t kt => ?_) ?_
        · show Steps p.tables e below (T125.setTop (mkF m 151 #[.val (.long p0), .second, .val (.long p1), .second, .val (.long p2), .second, .val (.long p3), .second, .val (.long p4), .second, .val (.int p5), .val (.long v86), .second, .val (.long v90), .second, .val (.long v94), .second, .val (.long v98), .second, .val (.ref b101), .val (.ref b112), .val (.int (((p5.toUInt32 >>> ((4 : Int32) &&& 31).toUInt32).toInt32) &&& (3 : Int32))), .unset] [(.int (3 : Int32)), (.int (((p5.toUInt32 >>> ((4 : Int32) &&& 31).toUInt32).toInt32) &&& (3 : Int32)))])) _
          refine XS.icmpNo X125.here hx rfl (own_hb hby at_151) rfl (teq hc151_152).2 ?_
          show Steps p.tables e below (T125.setTop (mkF m 154 #[.val (.long p0), .second, .val (.long p1), .second, .val (.long p2), .second, .val (.long p3), .second, .val (.long p4), .second, .val (.int p5), .val (.long v86), .second, .val (.long v90), .second, .val (.long v94), .second, .val (.long v98), .second, .val (.ref b101), .val (.ref b112), .val (.int (((p5.toUInt32 >>> ((4 : Int32) &&& 31).toUInt32).toInt32) &&& (3 : Int32))), .unset] [])) _
          refine XS.aload X125.here hx rfl (own_hb hby at_154) rfl rfl ?_
          show Steps p.tables e below (T125.setTop (mkF m 156 #[.val (.long p0), .second, .val (.long p1), .second, .val (.long p2), .second, .val (.long p3), .second, .val (.long p4), .second, .val (.int p5), .val (.long v86), .second, .val (.long v90), .second, .val (.long v94), .second, .val (.long v98), .second, .val (.ref b101), .val (.ref b112), .val (.int (((p5.toUInt32 >>> ((4 : Int32) &&& 31).toUInt32).toInt32) &&& (3 : Int32))), .unset] [(.ref b101)])) _
          refine XS.aload X125.here hx rfl (own_hb hby at_156) rfl rfl ?_
          exact kt
        obtain ⟨cq153, kq153, q153a, q153b, q153c⟩ := isOf hZ rfl f127
        obtain ⟨_, _, ⟨T153, L153, k153, n153⟩, -, X153, ⟨Lc153, hQ153, l153, y153, z153⟩, st153⟩ := X125.virtualBack hx (y := (⟨"com/example/quayside/quayside/FileStamp", "equals", "(Ljava/lang/Object;)Z"⟩ : MethodName)) (z := (⟨"com/example/quayside/quayside/FileStamp", "equals", "(Ljava/lang/Object;)Z"⟩ : MethodName)) hown (mvT hZ (hw _ (List.mem_of_getElem? (i := 22) rfl))) (mvT hZ (hw _ (List.mem_of_getElem? (i := 23) rfl))) (notFace_of_selects (args := #[]) (mvT hZ (hw _ (List.mem_of_getElem? (i := 25) rfl)))) (mvT hZ (hw _ (List.mem_of_getElem? (i := 25) rfl))) (mvT hZ (hw _ (List.mem_of_getElem? (i := 24) rfl))) (by decide) (backOf (W := 0) (rm4 l Z a0 hw [] b101 b101 p0 p1 p2 p3 p0 p1 p2 p3 T125.heap n0 z133 f127 f128 f129 f130 f131 f128 f129 f130 f131) hZ (hw _ (List.mem_of_getElem? (i := 26) rfl)) (hw _ (List.mem_of_getElem? (i := 2) rfl)) (by decide) (by decide)) q153a q153c (g := (mkF m 158 #[.val (.long p0), .second, .val (.long p1), .second, .val (.long p2), .second, .val (.long p3), .second, .val (.long p4), .second, .val (.int p5), .val (.long v86), .second, .val (.long v90), .second, .val (.long v94), .second, .val (.long v98), .second, .val (.ref b101), .val (.ref b112), .val (.int (((p5.toUInt32 >>> ((4 : Int32) &&& 31).toUInt32).toInt32) &&& (3 : Int32))), .unset] [(.ref b101), (.ref b101)])) rfl (by rw [hml]; rfl) (Steps.refl _) (argsL := [(.ref b101)]) (rest := []) (lenOf pd_3 rfl) rfl (by show 2 * 0 + _ ≤ _; exact Nat.le_of_eq rfl) (own_hb hby at_158) (fun _ _ => ⟨rfl, rfl, (by decide : 2 + 0 ≤ _), (by decide : 8 + 0 ≤ _)⟩)
        dsimp only [Pt.U, Pt.locs, Pt.cells, Pt.slots] at X153 l153 y153 z153 st153 hQ153
        subst l153 y153 z153
        obtain ⟨rfl, N153q, hh153⟩ := hQ153
        have N153 := Fr.app N125 N153q
        refine own_Go.of (S' := (T153.setTop (mkF m 161 #[.val (.long p0), .second, .val (.long p1), .second, .val (.long p2), .second, .val (.long p3), .second, .val (.long p4), .second, .val (.int p5), .val (.long v86), .second, .val (.long v90), .second, .val (.long v94), .second, .val (.long v98), .second, .val (.ref b101), .val (.ref b112), .val (.int (((p5.toUInt32 >>> ((4 : Int32) &&& 31).toUInt32).toInt32) &&& (3 : Int32))), .unset] [(.int (own_eq4 p0 p1 p2 p3 p0 p1 p2 p3))]))) (fun t kt => st153.trans kt) ?_
        have hs1 : (own_eq4 p0 p1 p2 p3 p0 p1 p2 p3) = (1 : Int32) := by unfold own_eq4; rw [if_pos ⟨rfl, rfl, rfl, rfl⟩]
        refine own_Go.of (S' := (T153.setTop (mkF m 161 #[.val (.long p0), .second, .val (.long p1), .second, .val (.long p2), .second, .val (.long p3), .second, .val (.long p4), .second, .val (.int p5), .val (.long v86), .second, .val (.long v90), .second, .val (.long v94), .second, .val (.long v98), .second, .val (.ref b101), .val (.ref b112), .val (.int (((p5.toUInt32 >>> ((4 : Int32) &&& 31).toUInt32).toInt32) &&& (3 : Int32))), .unset] [(.int (1 : Int32))]))) (fun t kt => ?_) ?_
        · show Steps p.tables e below (T153.setTop (mkF m 161 #[.val (.long p0), .second, .val (.long p1), .second, .val (.long p2), .second, .val (.long p3), .second, .val (.long p4), .second, .val (.int p5), .val (.long v86), .second, .val (.long v90), .second, .val (.long v94), .second, .val (.long v98), .second, .val (.ref b101), .val (.ref b112), .val (.int (((p5.toUInt32 >>> ((4 : Int32) &&& 31).toUInt32).toInt32) &&& (3 : Int32))), .unset] [(.int (own_eq4 p0 p1 p2 p3 p0 p1 p2 p3))])) _
          rw [hs1]
          exact kt
        exact own_retN X153 hx hlk (t := .boolean) hret (by simp) (own_hb hby at_161) hh153 ⟨rfl, N153⟩ (by decide) (by decide)
      · skip
        refine own_Go.of (S' := (T125.setTop (mkF m 166 #[.val (.long p0), .second, .val (.long p1), .second, .val (.long p2), .second, .val (.long p3), .second, .val (.long p4), .second, .val (.int p5), .val (.long v86), .second, .val (.long v90), .second, .val (.long v94), .second, .val (.long v98), .second, .val (.ref b101), .val (.ref b112), .val (.int (((p5.toUInt32 >>> ((4 : Int32) &&& 31).toUInt32).toInt32) &&& (3 : Int32))), .unset] [(.int (lcmpW v86 p0))]))) (fun t kt => ?_) ?_
        · show Steps p.tables e below (T125.setTop (mkF m 151 #[.val (.long p0), .second, .val (.long p1), .second, .val (.long p2), .second, .val (.long p3), .second, .val (.long p4), .second, .val (.int p5), .val (.long v86), .second, .val (.long v90), .second, .val (.long v94), .second, .val (.long v98), .second, .val (.ref b101), .val (.ref b112), .val (.int (((p5.toUInt32 >>> ((4 : Int32) &&& 31).toUInt32).toInt32) &&& (3 : Int32))), .unset] [(.int (3 : Int32)), (.int (((p5.toUInt32 >>> ((4 : Int32) &&& 31).toUInt32).toInt32) &&& (3 : Int32)))])) _
          refine XS.icmpYes X125.here hx rfl (pc0 := 151) (pc' := 162) rfl (own_hb hby at_151) rfl (feq hc151_152).2 (by decide) (by decide) ?_
          show Steps p.tables e below (T125.setTop (mkF m 162 #[.val (.long p0), .second, .val (.long p1), .second, .val (.long p2), .second, .val (.long p3), .second, .val (.long p4), .second, .val (.int p5), .val (.long v86), .second, .val (.long v90), .second, .val (.long v94), .second, .val (.long v98), .second, .val (.ref b101), .val (.ref b112), .val (.int (((p5.toUInt32 >>> ((4 : Int32) &&& 31).toUInt32).toInt32) &&& (3 : Int32))), .unset] [])) _
          refine XS.lload X125.here hx rfl (own_hb hby at_162) rfl ?_
          show Steps p.tables e below (T125.setTop (mkF m 164 #[.val (.long p0), .second, .val (.long p1), .second, .val (.long p2), .second, .val (.long p3), .second, .val (.long p4), .second, .val (.int p5), .val (.long v86), .second, .val (.long v90), .second, .val (.long v94), .second, .val (.long v98), .second, .val (.ref b101), .val (.ref b112), .val (.int (((p5.toUInt32 >>> ((4 : Int32) &&& 31).toUInt32).toInt32) &&& (3 : Int32))), .unset] [(.long v86)])) _
          refine XS.lloadN X125.here hx rfl (own_hb hby at_164) rfl ?_
          show Steps p.tables e below (T125.setTop (mkF m 165 #[.val (.long p0), .second, .val (.long p1), .second, .val (.long p2), .second, .val (.long p3), .second, .val (.long p4), .second, .val (.int p5), .val (.long v86), .second, .val (.long v90), .second, .val (.long v94), .second, .val (.long v98), .second, .val (.ref b101), .val (.ref b112), .val (.int (((p5.toUInt32 >>> ((4 : Int32) &&& 31).toUInt32).toInt32) &&& (3 : Int32))), .unset] [(.long p0), (.long v86)])) _
          refine XS.lcmp X125.here hx rfl (own_hb hby at_165) rfl ?_
          exact kt
        obtain ⟨v158, hd160, st159⟩ : ∃ v158 : Int32, ((v158 = (1 : Int32) ∧ v86 = p0 ∧ v90 = p1 ∧ v94 = p2 ∧ v98 = p3) ∨ (v158 = (0 : Int32) ∧ v86 = p0 ∧ v90 = p1 ∧ v94 = p2 ∧ ¬ (v98 = p3)) ∨ (v158 = (0 : Int32) ∧ v86 = p0 ∧ v90 = p1 ∧ ¬ (v94 = p2)) ∨ (v158 = (0 : Int32) ∧ v86 = p0 ∧ ¬ (v90 = p1)) ∨ (v158 = (0 : Int32) ∧ ¬ (v86 = p0))) ∧ ∀ t, Steps p.tables e below (T125.setTop (mkF m 197 #[.val (.long p0), .second, .val (.long p1), .second, .val (.long p2), .second, .val (.long p3), .second, .val (.long p4), .second, .val (.int p5), .val (.long v86), .second, .val (.long v90), .second, .val (.long v94), .second, .val (.long v98), .second, .val (.ref b101), .val (.ref b112), .val (.int (((p5.toUInt32 >>> ((4 : Int32) &&& 31).toUInt32).toInt32) &&& (3 : Int32))), .unset] [(.int v158)])) t → Steps p.tables e below (T125.setTop (mkF m 166 #[.val (.long p0), .second, .val (.long p1), .second, .val (.long p2), .second, .val (.long p3), .second, .val (.long p4), .second, .val (.int p5), .val (.long v86), .second, .val (.long v90), .second, .val (.long v94), .second, .val (.long v98), .second, .val (.ref b101), .val (.ref b112), .val (.int (((p5.toUInt32 >>> ((4 : Int32) &&& 31).toUInt32).toInt32) &&& (3 : Int32))), .unset] [(.int (lcmpW v86 p0))])) t := by
          by_cases hc166_154 : v86 = p0
          · skip
            by_cases hc173_155 : v90 = p1
            · skip
              by_cases hc181_156 : v94 = p2
              · skip
                by_cases hc189_157 : v98 = p3
                · skip
                  refine ⟨(1 : Int32), (Or.inl (⟨rfl, hc166_154, hc173_155, hc181_156, hc189_157⟩)), fun t kt => ?_⟩
                  show Steps p.tables e below (T125.setTop (mkF m 166 #[.val (.long p0), .second, .val (.long p1), .second, .val (.long p2), .second, .val (.long p3), .second, .val (.long p4), .second, .val (.int p5), .val (.long v86), .second, .val (.long v90), .second, .val (.long v94), .second, .val (.long v98), .second, .val (.ref b101), .val (.ref b112), .val (.int (((p5.toUInt32 >>> ((4 : Int32) &&& 31).toUInt32).toInt32) &&& (3 : Int32))), .unset] [(.int (lcmpW v86 p0))])) _
                  refine XS.ifNo X125.here hx rfl (own_hb hby at_166) rfl ((if0 _ _).trans (teq ((lw_eq _ _).mpr hc166_154)).2) ?_
                  show Steps p.tables e below (T125.setTop (mkF m 169 #[.val (.long p0), .second, .val (.long p1), .second, .val (.long p2), .second, .val (.long p3), .second, .val (.long p4), .second, .val (.int p5), .val (.long v86), .second, .val (.long v90), .second, .val (.long v94), .second, .val (.long v98), .second, .val (.ref b101), .val (.ref b112), .val (.int (((p5.toUInt32 >>> ((4 : Int32) &&& 31).toUInt32).toInt32) &&& (3 : Int32))), .unset] [])) _
                  refine XS.lload X125.here hx rfl (own_hb hby at_169) rfl ?_
                  show Steps p.tables e below (T125.setTop (mkF m 171 #[.val (.long p0), .second, .val (.long p1), .second, .val (.long p2), .second, .val (.long p3), .second, .val (.long p4), .second, .val (.int p5), .val (.long v86), .second, .val (.long v90), .second, .val (.long v94), .second, .val (.long v98), .second, .val (.ref b101), .val (.ref b112), .val (.int (((p5.toUInt32 >>> ((4 : Int32) &&& 31).toUInt32).toInt32) &&& (3 : Int32))), .unset] [(.long v90)])) _
                  refine XS.lloadN X125.here hx rfl (own_hb hby at_171) rfl ?_
                  show Steps p.tables e below (T125.setTop (mkF m 172 #[.val (.long p0), .second, .val (.long p1), .second, .val (.long p2), .second, .val (.long p3), .second, .val (.long p4), .second, .val (.int p5), .val (.long v86), .second, .val (.long v90), .second, .val (.long v94), .second, .val (.long v98), .second, .val (.ref b101), .val (.ref b112), .val (.int (((p5.toUInt32 >>> ((4 : Int32) &&& 31).toUInt32).toInt32) &&& (3 : Int32))), .unset] [(.long p1), (.long v90)])) _
                  refine XS.lcmp X125.here hx rfl (own_hb hby at_172) rfl ?_
                  show Steps p.tables e below (T125.setTop (mkF m 173 #[.val (.long p0), .second, .val (.long p1), .second, .val (.long p2), .second, .val (.long p3), .second, .val (.long p4), .second, .val (.int p5), .val (.long v86), .second, .val (.long v90), .second, .val (.long v94), .second, .val (.long v98), .second, .val (.ref b101), .val (.ref b112), .val (.int (((p5.toUInt32 >>> ((4 : Int32) &&& 31).toUInt32).toInt32) &&& (3 : Int32))), .unset] [(.int (lcmpW v90 p1))])) _
                  refine XS.ifNo X125.here hx rfl (own_hb hby at_173) rfl ((if0 _ _).trans (teq ((lw_eq _ _).mpr hc173_155)).2) ?_
                  show Steps p.tables e below (T125.setTop (mkF m 176 #[.val (.long p0), .second, .val (.long p1), .second, .val (.long p2), .second, .val (.long p3), .second, .val (.long p4), .second, .val (.int p5), .val (.long v86), .second, .val (.long v90), .second, .val (.long v94), .second, .val (.long v98), .second, .val (.ref b101), .val (.ref b112), .val (.int (((p5.toUInt32 >>> ((4 : Int32) &&& 31).toUInt32).toInt32) &&& (3 : Int32))), .unset] [])) _
                  refine XS.lload X125.here hx rfl (own_hb hby at_176) rfl ?_
                  show Steps p.tables e below (T125.setTop (mkF m 178 #[.val (.long p0), .second, .val (.long p1), .second, .val (.long p2), .second, .val (.long p3), .second, .val (.long p4), .second, .val (.int p5), .val (.long v86), .second, .val (.long v90), .second, .val (.long v94), .second, .val (.long v98), .second, .val (.ref b101), .val (.ref b112), .val (.int (((p5.toUInt32 >>> ((4 : Int32) &&& 31).toUInt32).toInt32) &&& (3 : Int32))), .unset] [(.long v94)])) _
                  refine XS.lload X125.here hx rfl (own_hb hby at_178) rfl ?_
                  show Steps p.tables e below (T125.setTop (mkF m 180 #[.val (.long p0), .second, .val (.long p1), .second, .val (.long p2), .second, .val (.long p3), .second, .val (.long p4), .second, .val (.int p5), .val (.long v86), .second, .val (.long v90), .second, .val (.long v94), .second, .val (.long v98), .second, .val (.ref b101), .val (.ref b112), .val (.int (((p5.toUInt32 >>> ((4 : Int32) &&& 31).toUInt32).toInt32) &&& (3 : Int32))), .unset] [(.long p2), (.long v94)])) _
                  refine XS.lcmp X125.here hx rfl (own_hb hby at_180) rfl ?_
                  show Steps p.tables e below (T125.setTop (mkF m 181 #[.val (.long p0), .second, .val (.long p1), .second, .val (.long p2), .second, .val (.long p3), .second, .val (.long p4), .second, .val (.int p5), .val (.long v86), .second, .val (.long v90), .second, .val (.long v94), .second, .val (.long v98), .second, .val (.ref b101), .val (.ref b112), .val (.int (((p5.toUInt32 >>> ((4 : Int32) &&& 31).toUInt32).toInt32) &&& (3 : Int32))), .unset] [(.int (lcmpW v94 p2))])) _
                  refine XS.ifNo X125.here hx rfl (own_hb hby at_181) rfl ((if0 _ _).trans (teq ((lw_eq _ _).mpr hc181_156)).2) ?_
                  show Steps p.tables e below (T125.setTop (mkF m 184 #[.val (.long p0), .second, .val (.long p1), .second, .val (.long p2), .second, .val (.long p3), .second, .val (.long p4), .second, .val (.int p5), .val (.long v86), .second, .val (.long v90), .second, .val (.long v94), .second, .val (.long v98), .second, .val (.ref b101), .val (.ref b112), .val (.int (((p5.toUInt32 >>> ((4 : Int32) &&& 31).toUInt32).toInt32) &&& (3 : Int32))), .unset] [])) _
                  refine XS.lload X125.here hx rfl (own_hb hby at_184) rfl ?_
                  show Steps p.tables e below (T125.setTop (mkF m 186 #[.val (.long p0), .second, .val (.long p1), .second, .val (.long p2), .second, .val (.long p3), .second, .val (.long p4), .second, .val (.int p5), .val (.long v86), .second, .val (.long v90), .second, .val (.long v94), .second, .val (.long v98), .second, .val (.ref b101), .val (.ref b112), .val (.int (((p5.toUInt32 >>> ((4 : Int32) &&& 31).toUInt32).toInt32) &&& (3 : Int32))), .unset] [(.long v98)])) _
                  refine XS.lload X125.here hx rfl (own_hb hby at_186) rfl ?_
                  show Steps p.tables e below (T125.setTop (mkF m 188 #[.val (.long p0), .second, .val (.long p1), .second, .val (.long p2), .second, .val (.long p3), .second, .val (.long p4), .second, .val (.int p5), .val (.long v86), .second, .val (.long v90), .second, .val (.long v94), .second, .val (.long v98), .second, .val (.ref b101), .val (.ref b112), .val (.int (((p5.toUInt32 >>> ((4 : Int32) &&& 31).toUInt32).toInt32) &&& (3 : Int32))), .unset] [(.long p3), (.long v98)])) _
                  refine XS.lcmp X125.here hx rfl (own_hb hby at_188) rfl ?_
                  show Steps p.tables e below (T125.setTop (mkF m 189 #[.val (.long p0), .second, .val (.long p1), .second, .val (.long p2), .second, .val (.long p3), .second, .val (.long p4), .second, .val (.int p5), .val (.long v86), .second, .val (.long v90), .second, .val (.long v94), .second, .val (.long v98), .second, .val (.ref b101), .val (.ref b112), .val (.int (((p5.toUInt32 >>> ((4 : Int32) &&& 31).toUInt32).toInt32) &&& (3 : Int32))), .unset] [(.int (lcmpW v98 p3))])) _
                  refine XS.ifNo X125.here hx rfl (own_hb hby at_189) rfl ((if0 _ _).trans (teq ((lw_eq _ _).mpr hc189_157)).2) ?_
                  show Steps p.tables e below (T125.setTop (mkF m 192 #[.val (.long p0), .second, .val (.long p1), .second, .val (.long p2), .second, .val (.long p3), .second, .val (.long p4), .second, .val (.int p5), .val (.long v86), .second, .val (.long v90), .second, .val (.long v94), .second, .val (.long v98), .second, .val (.ref b101), .val (.ref b112), .val (.int (((p5.toUInt32 >>> ((4 : Int32) &&& 31).toUInt32).toInt32) &&& (3 : Int32))), .unset] [])) _
                  refine XS.iconst X125.here hx rfl (own_hb hby at_192) ?_
                  show Steps p.tables e below (T125.setTop (mkF m 193 #[.val (.long p0), .second, .val (.long p1), .second, .val (.long p2), .second, .val (.long p3), .second, .val (.long p4), .second, .val (.int p5), .val (.long v86), .second, .val (.long v90), .second, .val (.long v94), .second, .val (.long v98), .second, .val (.ref b101), .val (.ref b112), .val (.int (((p5.toUInt32 >>> ((4 : Int32) &&& 31).toUInt32).toInt32) &&& (3 : Int32))), .unset] [(.int (1 : Int32))])) _
                  refine XS.goto X125.here hx rfl (pc0 := 193) (pc' := 197) rfl (own_hb hby at_193) (by decide) (by decide) ?_
                  exact kt
                · skip
                  refine ⟨(0 : Int32), (Or.inr (Or.inl (⟨rfl, hc166_154, hc173_155, hc181_156, hc189_157⟩))), fun t kt => ?_⟩
                  show Steps p.tables e below (T125.setTop (mkF m 166 #[.val (.long p0), .second, .val (.long p1), .second, .val (.long p2), .second, .val (.long p3), .second, .val (.long p4), .second, .val (.int p5), .val (.long v86), .second, .val (.long v90), .second, .val (.long v94), .second, .val (.long v98), .second, .val (.ref b101), .val (.ref b112), .val (.int (((p5.toUInt32 >>> ((4 : Int32) &&& 31).toUInt32).toInt32) &&& (3 : Int32))), .unset] [(.int (lcmpW v86 p0))])) _
                  refine XS.ifNo X125.here hx rfl (own_hb hby at_166) rfl ((if0 _ _).trans (teq ((lw_eq _ _).mpr hc166_154)).2) ?_
                  show Steps p.tables e below (T125.setTop (mkF m 169 #[.val (.long p0), .second, .val (.long p1), .second, .val (.long p2), .second, .val (.long p3), .second, .val (.long p4), .second, .val (.int p5), .val (.long v86), .second, .val (.long v90), .second, .val (.long v94), .second, .val (.long v98), .second, .val (.ref b101), .val (.ref b112), .val (.int (((p5.toUInt32 >>> ((4 : Int32) &&& 31).toUInt32).toInt32) &&& (3 : Int32))), .unset] [])) _
                  refine XS.lload X125.here hx rfl (own_hb hby at_169) rfl ?_
                  show Steps p.tables e below (T125.setTop (mkF m 171 #[.val (.long p0), .second, .val (.long p1), .second, .val (.long p2), .second, .val (.long p3), .second, .val (.long p4), .second, .val (.int p5), .val (.long v86), .second, .val (.long v90), .second, .val (.long v94), .second, .val (.long v98), .second, .val (.ref b101), .val (.ref b112), .val (.int (((p5.toUInt32 >>> ((4 : Int32) &&& 31).toUInt32).toInt32) &&& (3 : Int32))), .unset] [(.long v90)])) _
                  refine XS.lloadN X125.here hx rfl (own_hb hby at_171) rfl ?_
                  show Steps p.tables e below (T125.setTop (mkF m 172 #[.val (.long p0), .second, .val (.long p1), .second, .val (.long p2), .second, .val (.long p3), .second, .val (.long p4), .second, .val (.int p5), .val (.long v86), .second, .val (.long v90), .second, .val (.long v94), .second, .val (.long v98), .second, .val (.ref b101), .val (.ref b112), .val (.int (((p5.toUInt32 >>> ((4 : Int32) &&& 31).toUInt32).toInt32) &&& (3 : Int32))), .unset] [(.long p1), (.long v90)])) _
                  refine XS.lcmp X125.here hx rfl (own_hb hby at_172) rfl ?_
                  show Steps p.tables e below (T125.setTop (mkF m 173 #[.val (.long p0), .second, .val (.long p1), .second, .val (.long p2), .second, .val (.long p3), .second, .val (.long p4), .second, .val (.int p5), .val (.long v86), .second, .val (.long v90), .second, .val (.long v94), .second, .val (.long v98), .second, .val (.ref b101), .val (.ref b112), .val (.int (((p5.toUInt32 >>> ((4 : Int32) &&& 31).toUInt32).toInt32) &&& (3 : Int32))), .unset] [(.int (lcmpW v90 p1))])) _
                  refine XS.ifNo X125.here hx rfl (own_hb hby at_173) rfl ((if0 _ _).trans (teq ((lw_eq _ _).mpr hc173_155)).2) ?_
                  show Steps p.tables e below (T125.setTop (mkF m 176 #[.val (.long p0), .second, .val (.long p1), .second, .val (.long p2), .second, .val (.long p3), .second, .val (.long p4), .second, .val (.int p5), .val (.long v86), .second, .val (.long v90), .second, .val (.long v94), .second, .val (.long v98), .second, .val (.ref b101), .val (.ref b112), .val (.int (((p5.toUInt32 >>> ((4 : Int32) &&& 31).toUInt32).toInt32) &&& (3 : Int32))), .unset] [])) _
                  refine XS.lload X125.here hx rfl (own_hb hby at_176) rfl ?_
                  show Steps p.tables e below (T125.setTop (mkF m 178 #[.val (.long p0), .second, .val (.long p1), .second, .val (.long p2), .second, .val (.long p3), .second, .val (.long p4), .second, .val (.int p5), .val (.long v86), .second, .val (.long v90), .second, .val (.long v94), .second, .val (.long v98), .second, .val (.ref b101), .val (.ref b112), .val (.int (((p5.toUInt32 >>> ((4 : Int32) &&& 31).toUInt32).toInt32) &&& (3 : Int32))), .unset] [(.long v94)])) _
                  refine XS.lload X125.here hx rfl (own_hb hby at_178) rfl ?_
                  show Steps p.tables e below (T125.setTop (mkF m 180 #[.val (.long p0), .second, .val (.long p1), .second, .val (.long p2), .second, .val (.long p3), .second, .val (.long p4), .second, .val (.int p5), .val (.long v86), .second, .val (.long v90), .second, .val (.long v94), .second, .val (.long v98), .second, .val (.ref b101), .val (.ref b112), .val (.int (((p5.toUInt32 >>> ((4 : Int32) &&& 31).toUInt32).toInt32) &&& (3 : Int32))), .unset] [(.long p2), (.long v94)])) _
                  refine XS.lcmp X125.here hx rfl (own_hb hby at_180) rfl ?_
                  show Steps p.tables e below (T125.setTop (mkF m 181 #[.val (.long p0), .second, .val (.long p1), .second, .val (.long p2), .second, .val (.long p3), .second, .val (.long p4), .second, .val (.int p5), .val (.long v86), .second, .val (.long v90), .second, .val (.long v94), .second, .val (.long v98), .second, .val (.ref b101), .val (.ref b112), .val (.int (((p5.toUInt32 >>> ((4 : Int32) &&& 31).toUInt32).toInt32) &&& (3 : Int32))), .unset] [(.int (lcmpW v94 p2))])) _
                  refine XS.ifNo X125.here hx rfl (own_hb hby at_181) rfl ((if0 _ _).trans (teq ((lw_eq _ _).mpr hc181_156)).2) ?_
                  show Steps p.tables e below (T125.setTop (mkF m 184 #[.val (.long p0), .second, .val (.long p1), .second, .val (.long p2), .second, .val (.long p3), .second, .val (.long p4), .second, .val (.int p5), .val (.long v86), .second, .val (.long v90), .second, .val (.long v94), .second, .val (.long v98), .second, .val (.ref b101), .val (.ref b112), .val (.int (((p5.toUInt32 >>> ((4 : Int32) &&& 31).toUInt32).toInt32) &&& (3 : Int32))), .unset] [])) _
                  refine XS.lload X125.here hx rfl (own_hb hby at_184) rfl ?_
                  show Steps p.tables e below (T125.setTop (mkF m 186 #[.val (.long p0), .second, .val (.long p1), .second, .val (.long p2), .second, .val (.long p3), .second, .val (.long p4), .second, .val (.int p5), .val (.long v86), .second, .val (.long v90), .second, .val (.long v94), .second, .val (.long v98), .second, .val (.ref b101), .val (.ref b112), .val (.int (((p5.toUInt32 >>> ((4 : Int32) &&& 31).toUInt32).toInt32) &&& (3 : Int32))), .unset] [(.long v98)])) _
                  refine XS.lload X125.here hx rfl (own_hb hby at_186) rfl ?_
                  show Steps p.tables e below (T125.setTop (mkF m 188 #[.val (.long p0), .second, .val (.long p1), .second, .val (.long p2), .second, .val (.long p3), .second, .val (.long p4), .second, .val (.int p5), .val (.long v86), .second, .val (.long v90), .second, .val (.long v94), .second, .val (.long v98), .second, .val (.ref b101), .val (.ref b112), .val (.int (((p5.toUInt32 >>> ((4 : Int32) &&& 31).toUInt32).toInt32) &&& (3 : Int32))), .unset] [(.long p3), (.long v98)])) _
                  refine XS.lcmp X125.here hx rfl (own_hb hby at_188) rfl ?_
                  show Steps p.tables e below (T125.setTop (mkF m 189 #[.val (.long p0), .second, .val (.long p1), .second, .val (.long p2), .second, .val (.long p3), .second, .val (.long p4), .second, .val (.int p5), .val (.long v86), .second, .val (.long v90), .second, .val (.long v94), .second, .val (.long v98), .second, .val (.ref b101), .val (.ref b112), .val (.int (((p5.toUInt32 >>> ((4 : Int32) &&& 31).toUInt32).toInt32) &&& (3 : Int32))), .unset] [(.int (lcmpW v98 p3))])) _
                  refine XS.ifYes X125.here hx rfl (pc0 := 189) (pc' := 196) rfl (own_hb hby at_189) rfl ((if0 _ _).trans (feq (fun q => hc189_157 ((lw_eq _ _).mp q))).2) (by decide) (by decide) ?_
                  show Steps p.tables e below (T125.setTop (mkF m 196 #[.val (.long p0), .second, .val (.long p1), .second, .val (.long p2), .second, .val (.long p3), .second, .val (.long p4), .second, .val (.int p5), .val (.long v86), .second, .val (.long v90), .second, .val (.long v94), .second, .val (.long v98), .second, .val (.ref b101), .val (.ref b112), .val (.int (((p5.toUInt32 >>> ((4 : Int32) &&& 31).toUInt32).toInt32) &&& (3 : Int32))), .unset] [])) _
                  refine XS.iconst X125.here hx rfl (own_hb hby at_196) ?_
                  exact kt
              · skip
                refine ⟨(0 : Int32), (Or.inr (Or.inr (Or.inl (⟨rfl, hc166_154, hc173_155, hc181_156⟩)))), fun t kt => ?_⟩
                show Steps p.tables e below (T125.setTop (mkF m 166 #[.val (.long p0), .second, .val (.long p1), .second, .val (.long p2), .second, .val (.long p3), .second, .val (.long p4), .second, .val (.int p5), .val (.long v86), .second, .val (.long v90), .second, .val (.long v94), .second, .val (.long v98), .second, .val (.ref b101), .val (.ref b112), .val (.int (((p5.toUInt32 >>> ((4 : Int32) &&& 31).toUInt32).toInt32) &&& (3 : Int32))), .unset] [(.int (lcmpW v86 p0))])) _
                refine XS.ifNo X125.here hx rfl (own_hb hby at_166) rfl ((if0 _ _).trans (teq ((lw_eq _ _).mpr hc166_154)).2) ?_
                show Steps p.tables e below (T125.setTop (mkF m 169 #[.val (.long p0), .second, .val (.long p1), .second, .val (.long p2), .second, .val (.long p3), .second, .val (.long p4), .second, .val (.int p5), .val (.long v86), .second, .val (.long v90), .second, .val (.long v94), .second, .val (.long v98), .second, .val (.ref b101), .val (.ref b112), .val (.int (((p5.toUInt32 >>> ((4 : Int32) &&& 31).toUInt32).toInt32) &&& (3 : Int32))), .unset] [])) _
                refine XS.lload X125.here hx rfl (own_hb hby at_169) rfl ?_
                show Steps p.tables e below (T125.setTop (mkF m 171 #[.val (.long p0), .second, .val (.long p1), .second, .val (.long p2), .second, .val (.long p3), .second, .val (.long p4), .second, .val (.int p5), .val (.long v86), .second, .val (.long v90), .second, .val (.long v94), .second, .val (.long v98), .second, .val (.ref b101), .val (.ref b112), .val (.int (((p5.toUInt32 >>> ((4 : Int32) &&& 31).toUInt32).toInt32) &&& (3 : Int32))), .unset] [(.long v90)])) _
                refine XS.lloadN X125.here hx rfl (own_hb hby at_171) rfl ?_
                show Steps p.tables e below (T125.setTop (mkF m 172 #[.val (.long p0), .second, .val (.long p1), .second, .val (.long p2), .second, .val (.long p3), .second, .val (.long p4), .second, .val (.int p5), .val (.long v86), .second, .val (.long v90), .second, .val (.long v94), .second, .val (.long v98), .second, .val (.ref b101), .val (.ref b112), .val (.int (((p5.toUInt32 >>> ((4 : Int32) &&& 31).toUInt32).toInt32) &&& (3 : Int32))), .unset] [(.long p1), (.long v90)])) _
                refine XS.lcmp X125.here hx rfl (own_hb hby at_172) rfl ?_
                show Steps p.tables e below (T125.setTop (mkF m 173 #[.val (.long p0), .second, .val (.long p1), .second, .val (.long p2), .second, .val (.long p3), .second, .val (.long p4), .second, .val (.int p5), .val (.long v86), .second, .val (.long v90), .second, .val (.long v94), .second, .val (.long v98), .second, .val (.ref b101), .val (.ref b112), .val (.int (((p5.toUInt32 >>> ((4 : Int32) &&& 31).toUInt32).toInt32) &&& (3 : Int32))), .unset] [(.int (lcmpW v90 p1))])) _
                refine XS.ifNo X125.here hx rfl (own_hb hby at_173) rfl ((if0 _ _).trans (teq ((lw_eq _ _).mpr hc173_155)).2) ?_
                show Steps p.tables e below (T125.setTop (mkF m 176 #[.val (.long p0), .second, .val (.long p1), .second, .val (.long p2), .second, .val (.long p3), .second, .val (.long p4), .second, .val (.int p5), .val (.long v86), .second, .val (.long v90), .second, .val (.long v94), .second, .val (.long v98), .second, .val (.ref b101), .val (.ref b112), .val (.int (((p5.toUInt32 >>> ((4 : Int32) &&& 31).toUInt32).toInt32) &&& (3 : Int32))), .unset] [])) _
                refine XS.lload X125.here hx rfl (own_hb hby at_176) rfl ?_
                show Steps p.tables e below (T125.setTop (mkF m 178 #[.val (.long p0), .second, .val (.long p1), .second, .val (.long p2), .second, .val (.long p3), .second, .val (.long p4), .second, .val (.int p5), .val (.long v86), .second, .val (.long v90), .second, .val (.long v94), .second, .val (.long v98), .second, .val (.ref b101), .val (.ref b112), .val (.int (((p5.toUInt32 >>> ((4 : Int32) &&& 31).toUInt32).toInt32) &&& (3 : Int32))), .unset] [(.long v94)])) _
                refine XS.lload X125.here hx rfl (own_hb hby at_178) rfl ?_
                show Steps p.tables e below (T125.setTop (mkF m 180 #[.val (.long p0), .second, .val (.long p1), .second, .val (.long p2), .second, .val (.long p3), .second, .val (.long p4), .second, .val (.int p5), .val (.long v86), .second, .val (.long v90), .second, .val (.long v94), .second, .val (.long v98), .second, .val (.ref b101), .val (.ref b112), .val (.int (((p5.toUInt32 >>> ((4 : Int32) &&& 31).toUInt32).toInt32) &&& (3 : Int32))), .unset] [(.long p2), (.long v94)])) _
                refine XS.lcmp X125.here hx rfl (own_hb hby at_180) rfl ?_
                show Steps p.tables e below (T125.setTop (mkF m 181 #[.val (.long p0), .second, .val (.long p1), .second, .val (.long p2), .second, .val (.long p3), .second, .val (.long p4), .second, .val (.int p5), .val (.long v86), .second, .val (.long v90), .second, .val (.long v94), .second, .val (.long v98), .second, .val (.ref b101), .val (.ref b112), .val (.int (((p5.toUInt32 >>> ((4 : Int32) &&& 31).toUInt32).toInt32) &&& (3 : Int32))), .unset] [(.int (lcmpW v94 p2))])) _
                refine XS.ifYes X125.here hx rfl (pc0 := 181) (pc' := 196) rfl (own_hb hby at_181) rfl ((if0 _ _).trans (feq (fun q => hc181_156 ((lw_eq _ _).mp q))).2) (by decide) (by decide) ?_
                show Steps p.tables e below (T125.setTop (mkF m 196 #[.val (.long p0), .second, .val (.long p1), .second, .val (.long p2), .second, .val (.long p3), .second, .val (.long p4), .second, .val (.int p5), .val (.long v86), .second, .val (.long v90), .second, .val (.long v94), .second, .val (.long v98), .second, .val (.ref b101), .val (.ref b112), .val (.int (((p5.toUInt32 >>> ((4 : Int32) &&& 31).toUInt32).toInt32) &&& (3 : Int32))), .unset] [])) _
                refine XS.iconst X125.here hx rfl (own_hb hby at_196) ?_
                exact kt
            · skip
              refine ⟨(0 : Int32), (Or.inr (Or.inr (Or.inr (Or.inl (⟨rfl, hc166_154, hc173_155⟩))))), fun t kt => ?_⟩
              show Steps p.tables e below (T125.setTop (mkF m 166 #[.val (.long p0), .second, .val (.long p1), .second, .val (.long p2), .second, .val (.long p3), .second, .val (.long p4), .second, .val (.int p5), .val (.long v86), .second, .val (.long v90), .second, .val (.long v94), .second, .val (.long v98), .second, .val (.ref b101), .val (.ref b112), .val (.int (((p5.toUInt32 >>> ((4 : Int32) &&& 31).toUInt32).toInt32) &&& (3 : Int32))), .unset] [(.int (lcmpW v86 p0))])) _
              refine XS.ifNo X125.here hx rfl (own_hb hby at_166) rfl ((if0 _ _).trans (teq ((lw_eq _ _).mpr hc166_154)).2) ?_
              show Steps p.tables e below (T125.setTop (mkF m 169 #[.val (.long p0), .second, .val (.long p1), .second, .val (.long p2), .second, .val (.long p3), .second, .val (.long p4), .second, .val (.int p5), .val (.long v86), .second, .val (.long v90), .second, .val (.long v94), .second, .val (.long v98), .second, .val (.ref b101), .val (.ref b112), .val (.int (((p5.toUInt32 >>> ((4 : Int32) &&& 31).toUInt32).toInt32) &&& (3 : Int32))), .unset] [])) _
              refine XS.lload X125.here hx rfl (own_hb hby at_169) rfl ?_
              show Steps p.tables e below (T125.setTop (mkF m 171 #[.val (.long p0), .second, .val (.long p1), .second, .val (.long p2), .second, .val (.long p3), .second, .val (.long p4), .second, .val (.int p5), .val (.long v86), .second, .val (.long v90), .second, .val (.long v94), .second, .val (.long v98), .second, .val (.ref b101), .val (.ref b112), .val (.int (((p5.toUInt32 >>> ((4 : Int32) &&& 31).toUInt32).toInt32) &&& (3 : Int32))), .unset] [(.long v90)])) _
              refine XS.lloadN X125.here hx rfl (own_hb hby at_171) rfl ?_
              show Steps p.tables e below (T125.setTop (mkF m 172 #[.val (.long p0), .second, .val (.long p1), .second, .val (.long p2), .second, .val (.long p3), .second, .val (.long p4), .second, .val (.int p5), .val (.long v86), .second, .val (.long v90), .second, .val (.long v94), .second, .val (.long v98), .second, .val (.ref b101), .val (.ref b112), .val (.int (((p5.toUInt32 >>> ((4 : Int32) &&& 31).toUInt32).toInt32) &&& (3 : Int32))), .unset] [(.long p1), (.long v90)])) _
              refine XS.lcmp X125.here hx rfl (own_hb hby at_172) rfl ?_
              show Steps p.tables e below (T125.setTop (mkF m 173 #[.val (.long p0), .second, .val (.long p1), .second, .val (.long p2), .second, .val (.long p3), .second, .val (.long p4), .second, .val (.int p5), .val (.long v86), .second, .val (.long v90), .second, .val (.long v94), .second, .val (.long v98), .second, .val (.ref b101), .val (.ref b112), .val (.int (((p5.toUInt32 >>> ((4 : Int32) &&& 31).toUInt32).toInt32) &&& (3 : Int32))), .unset] [(.int (lcmpW v90 p1))])) _
              refine XS.ifYes X125.here hx rfl (pc0 := 173) (pc' := 196) rfl (own_hb hby at_173) rfl ((if0 _ _).trans (feq (fun q => hc173_155 ((lw_eq _ _).mp q))).2) (by decide) (by decide) ?_
              show Steps p.tables e below (T125.setTop (mkF m 196 #[.val (.long p0), .second, .val (.long p1), .second, .val (.long p2), .second, .val (.long p3), .second, .val (.long p4), .second, .val (.int p5), .val (.long v86), .second, .val (.long v90), .second, .val (.long v94), .second, .val (.long v98), .second, .val (.ref b101), .val (.ref b112), .val (.int (((p5.toUInt32 >>> ((4 : Int32) &&& 31).toUInt32).toInt32) &&& (3 : Int32))), .unset] [])) _
              refine XS.iconst X125.here hx rfl (own_hb hby at_196) ?_
              exact kt
          · skip
            refine ⟨(0 : Int32), (Or.inr (Or.inr (Or.inr (Or.inr (⟨rfl, hc166_154⟩))))), fun t kt => ?_⟩
            show Steps p.tables e below (T125.setTop (mkF m 166 #[.val (.long p0), .second, .val (.long p1), .second, .val (.long p2), .second, .val (.long p3), .second, .val (.long p4), .second, .val (.int p5), .val (.long v86), .second, .val (.long v90), .second, .val (.long v94), .second, .val (.long v98), .second, .val (.ref b101), .val (.ref b112), .val (.int (((p5.toUInt32 >>> ((4 : Int32) &&& 31).toUInt32).toInt32) &&& (3 : Int32))), .unset] [(.int (lcmpW v86 p0))])) _
            refine XS.ifYes X125.here hx rfl (pc0 := 166) (pc' := 196) rfl (own_hb hby at_166) rfl ((if0 _ _).trans (feq (fun q => hc166_154 ((lw_eq _ _).mp q))).2) (by decide) (by decide) ?_
            show Steps p.tables e below (T125.setTop (mkF m 196 #[.val (.long p0), .second, .val (.long p1), .second, .val (.long p2), .second, .val (.long p3), .second, .val (.long p4), .second, .val (.int p5), .val (.long v86), .second, .val (.long v90), .second, .val (.long v94), .second, .val (.long v98), .second, .val (.ref b101), .val (.ref b112), .val (.int (((p5.toUInt32 >>> ((4 : Int32) &&& 31).toUInt32).toInt32) &&& (3 : Int32))), .unset] [])) _
            refine XS.iconst X125.here hx rfl (own_hb hby at_196) ?_
            exact kt
        refine own_Go.of (S' := (T125.setTop (mkF m 197 #[.val (.long p0), .second, .val (.long p1), .second, .val (.long p2), .second, .val (.long p3), .second, .val (.long p4), .second, .val (.int p5), .val (.long v86), .second, .val (.long v90), .second, .val (.long v94), .second, .val (.long v98), .second, .val (.ref b101), .val (.ref b112), .val (.int (((p5.toUInt32 >>> ((4 : Int32) &&& 31).toUInt32).toInt32) &&& (3 : Int32))), .unset] [(.int v158)]))) st159 ?_
        have hxe : own_eq4 v86 v90 v94 v98 p0 p1 p2 p3 = v158 := by
          unfold own_eq4
          rcases hd160 with ⟨q, q1, q2, q3, q4⟩ | ⟨q, q1, q2, q3, q4⟩ | ⟨q, q1, q2, q3⟩ | ⟨q, q1, q2⟩ | ⟨q, q1⟩
          · rw [q, if_pos ⟨q1, q2, q3, q4⟩]
          · rw [q, if_neg fun z => q4 z.2.2.2]
          · rw [q, if_neg fun z => q3 z.2.2.1]
          · rw [q, if_neg fun z => q2 z.2.1]
          · rw [q, if_neg fun z => q1 z.1]
        skip
        refine own_Go.of (S' := (T125.setTop (mkF m 203 #[.val (.long p0), .second, .val (.long p1), .second, .val (.long p2), .second, .val (.long p3), .second, .val (.long p4), .second, .val (.int p5), .val (.long v86), .second, .val (.long v90), .second, .val (.long v94), .second, .val (.long v98), .second, .val (.ref b101), .val (.ref b112), .val (.int (((p5.toUInt32 >>> ((4 : Int32) &&& 31).toUInt32).toInt32) &&& (3 : Int32))), .val (.int v158)] [(.ref b112), (.ref b101)]))) (fun t kt => ?_) ?_
        · show Steps p.tables e below (T125.setTop (mkF m 197 #[.val (.long p0), .second, .val (.long p1), .second, .val (.long p2), .second, .val (.long p3), .second, .val (.long p4), .second, .val (.int p5), .val (.long v86), .second, .val (.long v90), .second, .val (.long v94), .second, .val (.long v98), .second, .val (.ref b101), .val (.ref b112), .val (.int (((p5.toUInt32 >>> ((4 : Int32) &&& 31).toUInt32).toInt32) &&& (3 : Int32))), .unset] [(.int v158)])) _
          refine XS.istore X125.here hx rfl (own_hb hby at_197) rfl (l' := #[.val (.long p0), .second, .val (.long p1), .second, .val (.long p2), .second, .val (.long p3), .second, .val (.long p4), .second, .val (.int p5), .val (.long v86), .second, .val (.long v90), .second, .val (.long v94), .second, .val (.long v98), .second, .val (.ref b101), .val (.ref b112), .val (.int (((p5.toUInt32 >>> ((4 : Int32) &&& 31).toUInt32).toInt32) &&& (3 : Int32))), .val (.int v158)]) rfl ?_
          show Steps p.tables e below (T125.setTop (mkF m 199 #[.val (.long p0), .second, .val (.long p1), .second, .val (.long p2), .second, .val (.long p3), .second, .val (.long p4), .second, .val (.int p5), .val (.long v86), .second, .val (.long v90), .second, .val (.long v94), .second, .val (.long v98), .second, .val (.ref b101), .val (.ref b112), .val (.int (((p5.toUInt32 >>> ((4 : Int32) &&& 31).toUInt32).toInt32) &&& (3 : Int32))), .val (.int v158)] [])) _
          refine XS.aload X125.here hx rfl (own_hb hby at_199) rfl rfl ?_
          show Steps p.tables e below (T125.setTop (mkF m 201 #[.val (.long p0), .second, .val (.long p1), .second, .val (.long p2), .second, .val (.long p3), .second, .val (.long p4), .second, .val (.int p5), .val (.long v86), .second, .val (.long v90), .second, .val (.long v94), .second, .val (.long v98), .second, .val (.ref b101), .val (.ref b112), .val (.int (((p5.toUInt32 >>> ((4 : Int32) &&& 31).toUInt32).toInt32) &&& (3 : Int32))), .val (.int v158)] [(.ref b101)])) _
          refine XS.aload X125.here hx rfl (own_hb hby at_201) rfl rfl ?_
          exact kt
        obtain ⟨cq161, kq161, q161a, q161b, q161c⟩ := isOf hZ rfl f127
        obtain ⟨_, _, ⟨T161, L161, k161, n161⟩, -, X161, ⟨Lc161, hQ161, l161, y161, z161⟩, st161⟩ := X125.virtualBack hx (y := (⟨"com/example/quayside/quayside/FileStamp", "equals", "(Ljava/lang/Object;)Z"⟩ : MethodName)) (z := (⟨"com/example/quayside/quayside/FileStamp", "equals", "(Ljava/lang/Object;)Z"⟩ : MethodName)) hown (mvT hZ (hw _ (List.mem_of_getElem? (i := 22) rfl))) (mvT hZ (hw _ (List.mem_of_getElem? (i := 23) rfl))) (notFace_of_selects (args := #[]) (mvT hZ (hw _ (List.mem_of_getElem? (i := 25) rfl)))) (mvT hZ (hw _ (List.mem_of_getElem? (i := 25) rfl))) (mvT hZ (hw _ (List.mem_of_getElem? (i := 24) rfl))) (by decide) (backOf (W := 0) (rm4 l Z a0 hw [] b101 b112 p0 p1 p2 p3 v86 v90 v94 v98 T125.heap n0 z133 p125_0 f128 f129 f130 f131 p125_1 p125_2 p125_3 p125_4) hZ (hw _ (List.mem_of_getElem? (i := 26) rfl)) (hw _ (List.mem_of_getElem? (i := 2) rfl)) (by decide) (by decide)) q161a q161c (g := (mkF m 203 #[.val (.long p0), .second, .val (.long p1), .second, .val (.long p2), .second, .val (.long p3), .second, .val (.long p4), .second, .val (.int p5), .val (.long v86), .second, .val (.long v90), .second, .val (.long v94), .second, .val (.long v98), .second, .val (.ref b101), .val (.ref b112), .val (.int (((p5.toUInt32 >>> ((4 : Int32) &&& 31).toUInt32).toInt32) &&& (3 : Int32))), .val (.int v158)] [(.ref b112), (.ref b101)])) rfl (by rw [hml]; rfl) (Steps.refl _) (argsL := [(.ref b112)]) (rest := []) (lenOf pd_3 rfl) rfl (by show 2 * 0 + _ ≤ _; exact Nat.le_of_eq rfl) (own_hb hby at_203) (fun _ _ => ⟨rfl, rfl, (by decide : 2 + 0 ≤ _), (by decide : 8 + 0 ≤ _)⟩)
        dsimp only [Pt.U, Pt.locs, Pt.cells, Pt.slots] at X161 l161 y161 z161 st161 hQ161
        subst l161 y161 z161
        obtain ⟨rfl, N161q, hh161⟩ := hQ161
        have N161 := Fr.app N125 N161q
        refine own_Go.of (S' := (T161.setTop (mkF m 206 #[.val (.long p0), .second, .val (.long p1), .second, .val (.long p2), .second, .val (.long p3), .second, .val (.long p4), .second, .val (.int p5), .val (.long v86), .second, .val (.long v90), .second, .val (.long v94), .second, .val (.long v98), .second, .val (.ref b101), .val (.ref b112), .val (.int (((p5.toUInt32 >>> ((4 : Int32) &&& 31).toUInt32).toInt32) &&& (3 : Int32))), .val (.int v158)] [(.int (own_eq4 v86 v90 v94 v98 p0 p1 p2 p3))]))) (fun t kt => st161.trans kt) ?_
        refine own_Go.of (S' := (T161.setTop (mkF m 215 #[.val (.long p0), .second, .val (.long p1), .second, .val (.long p2), .second, .val (.long p3), .second, .val (.long p4), .second, .val (.int p5), .val (.long v86), .second, .val (.long v90), .second, .val (.long v94), .second, .val (.long v98), .second, .val (.ref b101), .val (.ref b112), .val (.int (((p5.toUInt32 >>> ((4 : Int32) &&& 31).toUInt32).toInt32) &&& (3 : Int32))), .val (.int v158)] [(.ref b101), (.ref b112)]))) (fun t kt => ?_) ?_
        · show Steps p.tables e below (T161.setTop (mkF m 206 #[.val (.long p0), .second, .val (.long p1), .second, .val (.long p2), .second, .val (.long p3), .second, .val (.long p4), .second, .val (.int p5), .val (.long v86), .second, .val (.long v90), .second, .val (.long v94), .second, .val (.long v98), .second, .val (.ref b101), .val (.ref b112), .val (.int (((p5.toUInt32 >>> ((4 : Int32) &&& 31).toUInt32).toInt32) &&& (3 : Int32))), .val (.int v158)] [(.int (own_eq4 v86 v90 v94 v98 p0 p1 p2 p3))])) _
          refine XS.iload X161.here hx rfl (own_hb hby at_206) rfl ?_
          show Steps p.tables e below (T161.setTop (mkF m 208 #[.val (.long p0), .second, .val (.long p1), .second, .val (.long p2), .second, .val (.long p3), .second, .val (.long p4), .second, .val (.int p5), .val (.long v86), .second, .val (.long v90), .second, .val (.long v94), .second, .val (.long v98), .second, .val (.ref b101), .val (.ref b112), .val (.int (((p5.toUInt32 >>> ((4 : Int32) &&& 31).toUInt32).toInt32) &&& (3 : Int32))), .val (.int v158)] [(.int v158), (.int (own_eq4 v86 v90 v94 v98 p0 p1 p2 p3))])) _
          refine XS.icmpNo X161.here hx rfl (own_hb hby at_208) rfl (teq hxe).2 ?_
          show Steps p.tables e below (T161.setTop (mkF m 211 #[.val (.long p0), .second, .val (.long p1), .second, .val (.long p2), .second, .val (.long p3), .second, .val (.long p4), .second, .val (.int p5), .val (.long v86), .second, .val (.long v90), .second, .val (.long v94), .second, .val (.long v98), .second, .val (.ref b101), .val (.ref b112), .val (.int (((p5.toUInt32 >>> ((4 : Int32) &&& 31).toUInt32).toInt32) &&& (3 : Int32))), .val (.int v158)] [])) _
          refine XS.aload X161.here hx rfl (own_hb hby at_211) rfl rfl ?_
          show Steps p.tables e below (T161.setTop (mkF m 213 #[.val (.long p0), .second, .val (.long p1), .second, .val (.long p2), .second, .val (.long p3), .second, .val (.long p4), .second, .val (.int p5), .val (.long v86), .second, .val (.long v90), .second, .val (.long v94), .second, .val (.long v98), .second, .val (.ref b101), .val (.ref b112), .val (.int (((p5.toUInt32 >>> ((4 : Int32) &&& 31).toUInt32).toInt32) &&& (3 : Int32))), .val (.int v158)] [(.ref b112)])) _
          refine XS.aload X161.here hx rfl (own_hb hby at_213) rfl rfl ?_
          exact kt
        obtain ⟨cq162, kq162, q162a, q162b, q162c⟩ := isOf hZ hh161 p125_0
        obtain ⟨_, _, ⟨T162, L162, k162, n162⟩, -, X162, ⟨Lc162, hQ162, l162, y162, z162⟩, st162⟩ := X161.virtualBack hx (y := (⟨"com/example/quayside/quayside/FileStamp", "equals", "(Ljava/lang/Object;)Z"⟩ : MethodName)) (z := (⟨"com/example/quayside/quayside/FileStamp", "equals", "(Ljava/lang/Object;)Z"⟩ : MethodName)) hown (mvT hZ (hw _ (List.mem_of_getElem? (i := 22) rfl))) (mvT hZ (hw _ (List.mem_of_getElem? (i := 23) rfl))) (notFace_of_selects (args := #[]) (mvT hZ (hw _ (List.mem_of_getElem? (i := 25) rfl)))) (mvT hZ (hw _ (List.mem_of_getElem? (i := 25) rfl))) (mvT hZ (hw _ (List.mem_of_getElem? (i := 24) rfl))) (by decide) (backOf (W := 0) (rm4 l Z a0 hw [] b112 b101 v86 v90 v94 v98 p0 p1 p2 p3 T125.heap n0 z133 f127 p125_1 p125_2 p125_3 p125_4 f128 f129 f130 f131) hZ (hw _ (List.mem_of_getElem? (i := 26) rfl)) (hw _ (List.mem_of_getElem? (i := 2) rfl)) (by decide) (by decide)) q162a q162c (g := (mkF m 215 #[.val (.long p0), .second, .val (.long p1), .second, .val (.long p2), .second, .val (.long p3), .second, .val (.long p4), .second, .val (.int p5), .val (.long v86), .second, .val (.long v90), .second, .val (.long v94), .second, .val (.long v98), .second, .val (.ref b101), .val (.ref b112), .val (.int (((p5.toUInt32 >>> ((4 : Int32) &&& 31).toUInt32).toInt32) &&& (3 : Int32))), .val (.int v158)] [(.ref b101), (.ref b112)])) rfl (by rw [hml]; rfl) (Steps.refl _) (argsL := [(.ref b101)]) (rest := []) (lenOf pd_3 rfl) rfl (by show 2 * 0 + _ ≤ _; exact Nat.le_of_eq rfl) (own_hb hby at_215) (fun _ _ => ⟨rfl, hh161, (by decide : 2 + 0 ≤ _), (by decide : 8 + 0 ≤ _)⟩)
        dsimp only [Pt.U, Pt.locs, Pt.cells, Pt.slots] at X162 l162 y162 z162 st162 hQ162
        subst l162 y162 z162
        obtain ⟨rfl, N162q, hh162⟩ := hQ162
        have N162 := Fr.app N161 N162q
        refine own_Go.of (S' := (T162.setTop (mkF m 218 #[.val (.long p0), .second, .val (.long p1), .second, .val (.long p2), .second, .val (.long p3), .second, .val (.long p4), .second, .val (.int p5), .val (.long v86), .second, .val (.long v90), .second, .val (.long v94), .second, .val (.long v98), .second, .val (.ref b101), .val (.ref b112), .val (.int (((p5.toUInt32 >>> ((4 : Int32) &&& 31).toUInt32).toInt32) &&& (3 : Int32))), .val (.int v158)] [(.int (own_eq4 p0 p1 p2 p3 v86 v90 v94 v98))]))) (fun t kt => st162.trans kt) ?_
        refine own_Go.of (S' := (T162.setTop (mkF m 228 #[.val (.long p0), .second, .val (.long p1), .second, .val (.long p2), .second, .val (.long p3), .second, .val (.long p4), .second, .val (.int p5), .val (.long v86), .second, .val (.long v90), .second, .val (.long v94), .second, .val (.long v98), .second, .val (.ref b101), .val (.ref b112), .val (.int (((p5.toUInt32 >>> ((4 : Int32) &&& 31).toUInt32).toInt32) &&& (3 : Int32))), .val (.int v158)] [(.int (1 : Int32))]))) (fun t kt => ?_) ?_
        · show Steps p.tables e below (T162.setTop (mkF m 218 #[.val (.long p0), .second, .val (.long p1), .second, .val (.long p2), .second, .val (.long p3), .second, .val (.long p4), .second, .val (.int p5), .val (.long v86), .second, .val (.long v90), .second, .val (.long v94), .second, .val (.long v98), .second, .val (.ref b101), .val (.ref b112), .val (.int (((p5.toUInt32 >>> ((4 : Int32) &&& 31).toUInt32).toInt32) &&& (3 : Int32))), .val (.int v158)] [(.int (own_eq4 p0 p1 p2 p3 v86 v90 v94 v98))])) _
          refine XS.iload X162.here hx rfl (own_hb hby at_218) rfl ?_
          show Steps p.tables e below (T162.setTop (mkF m 220 #[.val (.long p0), .second, .val (.long p1), .second, .val (.long p2), .second, .val (.long p3), .second, .val (.long p4), .second, .val (.int p5), .val (.long v86), .second, .val (.long v90), .second, .val (.long v94), .second, .val (.long v98), .second, .val (.ref b101), .val (.ref b112), .val (.int (((p5.toUInt32 >>> ((4 : Int32) &&& 31).toUInt32).toInt32) &&& (3 : Int32))), .val (.int v158)] [(.int v158), (.int (own_eq4 p0 p1 p2 p3 v86 v90 v94 v98))])) _
          refine XS.icmpNo X162.here hx rfl (own_hb hby at_220) rfl (teq ((own_eq4_comm _ _ _ _ _ _ _ _).trans hxe)).2 ?_
          show Steps p.tables e below (T162.setTop (mkF m 223 #[.val (.long p0), .second, .val (.long p1), .second, .val (.long p2), .second, .val (.long p3), .second, .val (.long p4), .second, .val (.int p5), .val (.long v86), .second, .val (.long v90), .second, .val (.long v94), .second, .val (.long v98), .second, .val (.ref b101), .val (.ref b112), .val (.int (((p5.toUInt32 >>> ((4 : Int32) &&& 31).toUInt32).toInt32) &&& (3 : Int32))), .val (.int v158)] [])) _
          refine XS.iconst X162.here hx rfl (own_hb hby at_223) ?_
          show Steps p.tables e below (T162.setTop (mkF m 224 #[.val (.long p0), .second, .val (.long p1), .second, .val (.long p2), .second, .val (.long p3), .second, .val (.long p4), .second, .val (.int p5), .val (.long v86), .second, .val (.long v90), .second, .val (.long v94), .second, .val (.long v98), .second, .val (.ref b101), .val (.ref b112), .val (.int (((p5.toUInt32 >>> ((4 : Int32) &&& 31).toUInt32).toInt32) &&& (3 : Int32))), .val (.int v158)] [(.int (1 : Int32))])) _
          refine XS.goto X162.here hx rfl (pc0 := 224) (pc' := 228) rfl (own_hb hby at_224) (by decide) (by decide) ?_
          exact kt
        exact own_retN X162 hx hlk (t := .boolean) hret (by simp) (own_hb hby at_228) hh162 ⟨rfl, N162⟩ (by decide) (by decide)

theorem own_lenv {args : Array Value} {Z : State} {t : Term} {a : Addr} {k : Int32} (ht : t.eval args Z none [] Z = some (.ref a)) {cl : Cell} (ha : Z.arrayAt? a = some cl)
    (h : (Cond.eq (Term.length t) (Term.int k)).value args Z none Z [] = some true) : cl.slots.size < 2 ^ 31 ∧ cl.slots.size.toInt32 = k := by
  obtain ⟨x, y, h1, h2, h3, -⟩ := cmp_v (Or.inl h)
  have h4 : y = .int k := by rw [Term.int_eval] at h2; exact (Option.some.inj h2).symm
  subst h4
  have hl : cl.slots.size < 2 ^ 31 := by
    by_cases q : cl.slots.size < 2 ^ 31
    · exact q
    · have h5 : (Term.length t).eval args Z none [] Z = none := by
        simp only [Term.eval, ht, Option.bind_eq_bind, Option.bind_some]
        rw [ha]
        simp only [Option.bind_some]
        rw [if_neg q]
      rw [h5] at h1; cases h1
  rw [len_f ht ha hl] at h1
  refine ⟨hl, ?_⟩
  obtain rfl := Option.some.inj h1
  simp only [Cond.value, len_f ht ha hl, h2] at h
  simpa using h
set_option maxRecDepth 65536 in
set_option maxHeartbeats 40000000 in
theorem comes_1 {Post : Tables → Env → Array Value → State → Outcome → State → Prop} (hpost : ∀ tb e args s v u, (limb_1_1.after args s (.returned v) u = true ∧ limb_1_2.after args s (.returned v) u = true ∧ True) → FrameEnd s (.returned v) u (Jvm.fieldLocs frame_1_writes args s ++ Jvm.arrayLocs frame_1_arrays args s ++ Jvm.staticLocs frame_1_statics s) 16 128 → Post tb e args s (.returned v) u) :
    ArmFor flags0 classFile x code maxLocals ret World_1 tables_1 room_1 Calls_1 rest_1 Pre_1 Post := by
  intro l hfl _ _ p e ha hc hk s m args below hf hA hF happ hP
  obtain ⟨hcalls, hrest, hpre⟩ := hP
  obtain ⟨-, -, -, hnamed, -, -, -, hat⟩ := (Spec.applies_iff hf).mp happ
  obtain ⟨hg, hn⟩ := and_e (Cond.before_iff.mp (show (Jvm.Cond.and given_1 narrow_1).before args s = true from hpre))
  obtain ⟨gc, gr0⟩ := and_e hg
  obtain ⟨ga0, gr1⟩ := and_e gr0
  obtain ⟨ga1, gr2⟩ := and_e gr1
  obtain ⟨ga2, gr3⟩ := and_e gr2
  obtain ⟨ga3, gr4⟩ := and_e gr3
  obtain ⟨ga4, gr5⟩ := and_e gr4
  obtain ⟨w0, w1, w2, w3, w4, w5, rfl⟩ : ∃ w0 w1 w2 w3 w4 w5 : Value, args = #[w0, w1, w2, w3, w4, w5] := by
    have hs : args.size = 6 := by simpa [Cond.value, given_1] using gc
    obtain ⟨L⟩ := args
    match L, hs with
    | [w0, w1, w2, w3, w4, w5], _ => exact ⟨w0, w1, w2, w3, w4, w5, rfl⟩
  have hw := fun d (hd : d ∈ tables_1) => atoms_spec (ws := Jvm.Cond.code x code maxLocals ret :: tables_1) hat d (List.mem_cons_of_mem _ hd)
  have hfit : Fit s := fun {y c} hc i hi => by
    obtain ⟨ha, rfl⟩ := Array.getElem?_eq_some_iff.mp hc
    have q := List.all_eq_true.mp ((Array.all_eq_true_iff_forall_mem.mp hF) _ (Array.getElem_mem ha)) i (List.mem_range.mpr hi)
    simpa [Array.getElem?_eq_getElem hi] using q
  obtain ⟨hsets, hown0⟩ := atoms_of _ (rest_1_c_eq ▸ (show rest_1_c.before _ s = true from hrest))
  have hr0 := Cond.before_iff.mp hown0
  obtain ⟨i0, ei0⟩ := isL_v ga0
  obtain rfl : w0 = (.long i0) := Option.some.inj ei0
  obtain ⟨i1, ei1⟩ := isL_v ga1
  obtain rfl : w1 = (.long i1) := Option.some.inj ei1
  obtain ⟨i2, ei2⟩ := isL_v ga2
  obtain rfl : w2 = (.long i2) := Option.some.inj ei2
  obtain ⟨i3, ei3⟩ := isL_v ga3
  obtain rfl : w3 = (.long i3) := Option.some.inj ei3
  obtain ⟨i4, ei4⟩ := isL_v ga4
  obtain rfl : w4 = (.long i4) := Option.some.inj ei4
  obtain ⟨i5, ei5⟩ := is_v gr5
  obtain rfl : w5 = (.int i5) := Option.some.inj ei5
  obtain ⟨rc, erc⟩ := arr_v (Cond.before_iff.mp (hsets _ (List.mem_of_getElem? (i := 2) rfl)))
  obtain ⟨cl, Ac⟩ := Arr.start erc (Cond.before_iff.mp (hsets _ (List.mem_of_getElem? (i := 2) rfl)))
  have Aa := Ac.fin (Vm.Alike.refl _)
  obtain ⟨hl1, hl2⟩ := own_lenv erc Aa (Cond.before_iff.mp (hsets _ (List.mem_of_getElem? (i := 4) rfl)))
  have hsz : cl.slots.size = 256 := by
    have q := congrArg Int32.toInt hl2
    have q2 : (cl.slots.size.toInt32).toInt = (cl.slots.size : Int) := own_toInt hl1
    rw [q2] at q
    have e9 : (256 : Int32).toInt = 256 := rfl
    omega
  have et : ∀ idx, (Jvm.Term.static "java/lang/Long$LongCache" "cache" "[Ljava/lang/Long;").eval #[(.long i0), (.long i1), (.long i2), (.long i3), (.long i4), (.int i5)] s none idx s = some (.ref rc) := fun idx => by have q := erc; simp only [Term.eval] at q ⊢; exact q
  have hbx : ∀ i, i < 256 → ∃ b : Addr, cl.slots[i]? = some (.ref b) ∧ Exa s s.heap b "java/lang/Long" := fun i hi => by
    obtain ⟨ck, nn⟩ := own_clamp (k := i) (by omega)
    obtain ⟨u1, u2⟩ := and_e (Cond.all_elim (et []) Aa (Cond.before_iff.mp (hsets _ (List.mem_of_getElem? (i := 5) rfl))) (Int32.ofNat i).toNatClampNeg (by rw [ck, hsz]; exact hi))
    obtain ⟨box, eb⟩ := exa_v u1
    have q := (elem_f (et _) (idx_at nn) Aa nn).symm.trans eb
    rw [ck] at q
    exact ⟨box, q, exa_at eb u1⟩
  obtain ⟨fc, hfc⟩ : ∃ fc : Nat → Value, ∀ i, i < 256 → cl.slots[i]? = some (fc i) := ⟨fun i => (cl.slots[i]?).getD .null, fun i hi => by obtain ⟨b, q, -⟩ := hbx i hi; show cl.slots[i]? = some ((cl.slots[i]?).getD .null); rw [q]; rfl⟩
  have hC : ∀ i, i < 256 → ∃ b : Addr, fc i = .ref b ∧ Exa s s.heap b "java/lang/Long" := fun i hi => by
    obtain ⟨b, q, q2⟩ := hbx i hi
    rw [hfc i hi] at q
    exact ⟨b, Option.some.inj q, q2⟩
  have hA : own_Ar s s.heap rc (.object "java/lang/Long") 256 fc := ⟨by decide, cl, Ac, hsz, fun i hi => ⟨hfc i hi, by obtain ⟨b, q, -⟩ := hC i hi; rw [q]; rfl⟩⟩
  obtain ⟨n, o, h1, h2, h3, _, L, rfl, ⟨rfl, N⟩, hq⟩ := rm0 l s _ hw tables_1 i0 i1 i2 i3 i4 i5 rc fc s.heap s.heap.size (Nat.le_refl _) (Old.start s) (Sta.start erc (Or.inl (hsets _ (List.mem_of_getElem? (i := 1) rfl)))) hA hC p e ha hc hk s m _ below hf ((Spec.applies_iff_loose hf).mp happ).1 ⟨rfl, State.Warmed39.refl s, rfl⟩ trivial
  refine ⟨n, _, h1, h2, h3, hpost _ _ _ _ _ _ ⟨Cond.after_iff.mpr rfl, Cond.after_iff.mpr (eq_i res_at (Term.int_eval (1)) rfl), trivial⟩ ⟨hq.1, hq.2.1, (hq.2.2.sift fun y hy => Or.inr (N y hy)).mono (by decide) (by decide)⟩⟩
theorem main_1_1 : Claimed_1_1 := comes_1 fun _ _ _ _ _ _ h hF => ⟨h.1, hF⟩
theorem main_1_2 : Claimed_1_2 := comes_1 fun _ _ _ _ _ _ h hF => ⟨h.2.1, hF⟩
end Jvm.Pilot.@@N@@
namespace Jvm.Pilot.@@N@@
open Jvm Jvm.ClassFile Sem Op Lib Jvm.Free Jvm.Stand Jvm.Pilot.@@N@@.Jvm.D
/-! MADE BY PROGRAM (witnessworld.py) out of the Statement's table words and the real class files: 17 classes; the members and pool entries that the words name. The judged class is class 1, her method 1. -/
namespace start1
open Jvm.ClassFile
def u (s : String) : CpInfo := .utf8 (stringToUtf16 s)
/-- a pool by its gaps: so many unusable entries, then the entry; so many at the end -/
def gap : Nat → List CpInfo → List CpInfo
  | 0, r => r
  | n + 1, r => .unusable :: gap n r
def poolList (es : List (Nat × CpInfo)) (last : Nat) : List CpInfo := es.foldr (fun e r => gap e.1 (e.2 :: r)) (gap last [])
def pool (es : List (Nat × CpInfo)) (last : Nat) : Array CpInfo := ⟨poolList es last⟩
def fileOf (pool : Array CpInfo) (this : Nat) (attrs : Array Attribute := #[]) (ms : Array MethodInfo := #[]) (fl : Nat := 33) (sup : Nat := 0) (ifs : Array Nat := #[]) (fds : Array FieldInfo := #[]) : ClassFile where
  minorVersion := 0
  majorVersion := 65
  constantPool := pool
  accessFlags := fl
  thisClass := this
  superClass := sup
  interfaces := ifs
  fields := fds
  methods := ms
  attributes := attrs
def plain (name : String) (sup : Option ClassId) : Class where
  name := name
  kind := .ordinary
  loader := none
  accessFlags := 33
  super := sup
  interfaces := #[]
  cf := none
  fields := #[]
  methods := #[]
  instanceTypes := #[]
  staticTypes := #[]
  resolved := #[]
  callSites := []
  init := .initialized
  statics := none
  mirror := none

def pool0 : Array CpInfo := pool [(5, u "<init>"), (0, u "()V"), (1, .class_ 10), (1, u "java/lang/Object")] 113

def k0c0 : Code := { maxStack := 0, maxLocals := 1, code := object_method_1_code, exceptionTable := #[], attributes := #[] }
def k0m0 : Method := { name := "<init>", desc := "()V", sig := { parameters := [], returnType := none }, accessFlags := 1, code := some k0c0 }
/-- java/lang/Object -/
def k0 : Class := { plain "java/lang/Object" none with
  accessFlags := 33
  interfaces := #[]
  cf := some (fileOf pool0 8 #[] #[{ accessFlags := 1, nameIndex := 5, descriptorIndex := 6, attributes := #[] }] 33 0 #[] #[])
  fields := #[]
  methods := #[k0m0]
  instanceTypes := #[]
  staticTypes := #[]
  resolved := Array.replicate 124 none
  statics := none }

def pool1 : Array CpInfo := pool [(2, .class_ 4), (1, u "java/lang/Object"), (0, u "<init>"), (0, u "()V"), (0, .class_ 8), (0, u "com/example/quayside/quayside/FileStamp"), (0, .methodref 7 10), (0, .nameAndType 5 11), (0, u "(JJJJ)V"), (0, .methodref 7 13), (0, .nameAndType 14 15), (0, u "equals"), (0, u "(Ljava/lang/Object;)Z"), (0, .methodref 17 18), (0, .class_ 19), (0, .nameAndType 20 21), (0, u "java/lang/Long"), (0, u "valueOf"), (0, u "(J)Ljava/lang/Long;"), (0, .class_ 23), (0, u "com/example/quayside/quayside/FileStampEqualsPinLaw"), (2, u "law"), (0, u "(JJJJJI)Z")] 3

def k1m0 : Method := { name := "<init>", desc := "()V", sig := { parameters := [], returnType := none }, accessFlags := 1, code := none }
def k1c1 : Code := { maxStack := 10, maxLocals := 23, code := code, exceptionTable := #[], attributes := #[] }
def k1m1 : Method := { name := "law", desc := "(JJJJJI)Z", sig := { parameters := [.long, .long, .long, .long, .long, .int], returnType := some .boolean }, accessFlags := 9, code := some k1c1 }
/-- com/example/quayside/quayside/FileStampEqualsPinLaw -/
def k1 : Class := { plain "com/example/quayside/quayside/FileStampEqualsPinLaw" (some 0) with
  accessFlags := 49
  interfaces := #[]
  cf := some (fileOf pool1 22 #[] #[{ accessFlags := 1, nameIndex := 5, descriptorIndex := 6, attributes := #[] }, { accessFlags := 9, nameIndex := 26, descriptorIndex := 27, attributes := #[] }] 49 2 #[] #[])
  fields := #[]
  methods := #[k1m0, k1m1]
  instanceTypes := #[]
  staticTypes := #[]
  resolved := Array.replicate 31 none
  statics := none }

def pool2 : Array CpInfo := pool [(1, .methodref 2 3), (0, .class_ 4), (0, .nameAndType 5 6), (0, u "java/lang/Object"), (0, u "<init>"), (0, u "()V"), (0, .class_ 8), (0, u "java/lang/Record")] 13

def k2c0 : Code := { maxStack := 1, maxLocals := 1, code := jdk_30_method_1_code, exceptionTable := #[], attributes := #[] }
def k2m0 : Method := { name := "<init>", desc := "()V", sig := { parameters := [], returnType := none }, accessFlags := 4, code := some k2c0 }
/-- java/lang/Record -/
def k2 : Class := { plain "java/lang/Record" (some 0) with
  accessFlags := 1057
  interfaces := #[]
  cf := some (fileOf pool2 7 #[] #[{ accessFlags := 4, nameIndex := 5, descriptorIndex := 6, attributes := #[] }] 1057 2 #[] #[])
  fields := #[]
  methods := #[k2m0]
  instanceTypes := #[]
  staticTypes := #[]
  resolved := Array.replicate 22 none
  statics := none }

def pool3 : Array CpInfo := pool [(1, .methodref 2 3), (0, .class_ 4), (0, .nameAndType 5 6), (0, u "java/lang/Record"), (0, u "<init>"), (0, u "()V"), (0, .fieldref 8 9), (0, .class_ 10), (0, .nameAndType 11 12), (0, u "com/example/quayside/quayside/FileStamp"), (0, u "device"), (0, u "J"), (0, .fieldref 8 14), (0, .nameAndType 15 12), (0, u "inode"), (0, .fieldref 8 17), (0, .nameAndType 18 12), (0, u "size"), (0, .fieldref 8 20), (0, .nameAndType 21 12), (0, u "changed"), (2, u "equals"), (0, u "(Ljava/lang/Object;)Z"), (15, u "SETTLED_IN_SECONDS"), (2, u "SETTLED"), (51, u "(JJJJ)V")] 54

def k3c0 : Code := { maxStack := 3, maxLocals := 9, code := prog_27_method_1_code, exceptionTable := #[], attributes := #[] }
def k3m0 : Method := { name := "<init>", desc := "(JJJJ)V", sig := { parameters := [.long, .long, .long, .long], returnType := none }, accessFlags := 0, code := some k3c0 }
def k3c1 : Code := { maxStack := 4, maxLocals := 3, code := prog_27_method_3_code, exceptionTable := #[], attributes := #[] }
def k3m1 : Method := { name := "equals", desc := "(Ljava/lang/Object;)Z", sig := { parameters := [(.object "java/lang/Object")], returnType := some .boolean }, accessFlags := 1, code := some k3c1 }
/-- com/example/quayside/quayside/FileStamp -/
def k3 : Class := { plain "com/example/quayside/quayside/FileStamp" (some 2) with
  accessFlags := 48
  interfaces := #[]
  cf := some (fileOf pool3 8 #[] #[{ accessFlags := 0, nameIndex := 5, descriptorIndex := 96, attributes := #[] }, { accessFlags := 1, nameIndex := 24, descriptorIndex := 25, attributes := #[] }] 48 2 #[] #[{ accessFlags := 18, nameIndex := 11, descriptorIndex := 12, attributes := #[] }, { accessFlags := 18, nameIndex := 15, descriptorIndex := 12, attributes := #[] }, { accessFlags := 18, nameIndex := 18, descriptorIndex := 12, attributes := #[] }, { accessFlags := 18, nameIndex := 21, descriptorIndex := 12, attributes := #[] }, { accessFlags := 26, nameIndex := 44, descriptorIndex := 12, attributes := #[] }, { accessFlags := 26, nameIndex := 41, descriptorIndex := 12, attributes := #[] }])
  fields := #[{ name := "device", type := .long, accessFlags := 18, slot := 0, constantValue := 0 }, { name := "inode", type := .long, accessFlags := 18, slot := 1, constantValue := 0 }, { name := "size", type := .long, accessFlags := 18, slot := 2, constantValue := 0 }, { name := "changed", type := .long, accessFlags := 18, slot := 3, constantValue := 0 }, { name := "SETTLED", type := .long, accessFlags := 26, slot := 0, constantValue := 0 }, { name := "SETTLED_IN_SECONDS", type := .long, accessFlags := 26, slot := 1, constantValue := 0 }]
  methods := #[k3m0, k3m1]
  instanceTypes := #[.long, .long, .long, .long]
  staticTypes := #[.long, .long]
  resolved := Array.replicate 151 none
  statics := none }

def pool4 : Array CpInfo := pool [(1, .class_ 2), (0, u "java/io/Serializable"), (0, .class_ 4), (0, u "java/lang/Object")] 2

/-- java/io/Serializable -/
def k4 : Class := { plain "java/io/Serializable" (some 0) with
  accessFlags := 1537
  interfaces := #[]
  cf := some (fileOf pool4 1 #[] #[] 1537 3 #[] #[])
  fields := #[]
  methods := #[]
  instanceTypes := #[]
  staticTypes := #[]
  resolved := Array.replicate 7 none
  statics := none }

def pool5 : Array CpInfo := pool [(1, .methodref 2 3), (0, .class_ 4), (0, .nameAndType 5 6), (0, u "java/lang/Object"), (0, u "<init>"), (0, u "()V"), (1, .class_ 10), (1, u "java/lang/Number"), (2, .class_ 14), (0, u "java/io/Serializable"), (0, u "serialVersionUID"), (0, u "J")] 20

def k5c0 : Code := { maxStack := 1, maxLocals := 1, code := jdk_18_method_1_code, exceptionTable := #[], attributes := #[] }
def k5m0 : Method := { name := "<init>", desc := "()V", sig := { parameters := [], returnType := none }, accessFlags := 1, code := some k5c0 }
/-- java/lang/Number -/
def k5 : Class := { plain "java/lang/Number" (some 0) with
  accessFlags := 1057
  interfaces := #[4]
  cf := some (fileOf pool5 8 #[] #[{ accessFlags := 1, nameIndex := 5, descriptorIndex := 6, attributes := #[] }] 1057 2 #[13] #[{ accessFlags := 26, nameIndex := 15, descriptorIndex := 16, attributes := #[] }])
  fields := #[{ name := "serialVersionUID", type := .long, accessFlags := 26, slot := 0, constantValue := 0 }]
  methods := #[k5m0]
  instanceTypes := #[]
  staticTypes := #[.long]
  resolved := Array.replicate 37 none
  statics := none }

def pool6 : Array CpInfo := pool [(1, .class_ 2), (0, u "java/lang/Comparable"), (0, .class_ 4), (0, u "java/lang/Object")] 7

/-- java/lang/Comparable -/
def k6 : Class := { plain "java/lang/Comparable" (some 0) with
  accessFlags := 1537
  interfaces := #[]
  cf := some (fileOf pool6 1 #[] #[] 1537 3 #[] #[])
  fields := #[]
  methods := #[]
  instanceTypes := #[]
  staticTypes := #[]
  resolved := Array.replicate 12 none
  statics := none }

def pool7 : Array CpInfo := pool [(1, .class_ 2), (0, u "java/lang/constant/Constable"), (0, .class_ 4), (0, u "java/lang/Object")] 6

/-- java/lang/constant/Constable -/
def k7 : Class := { plain "java/lang/constant/Constable" (some 0) with
  accessFlags := 1537
  interfaces := #[]
  cf := some (fileOf pool7 1 #[] #[] 1537 3 #[] #[])
  fields := #[]
  methods := #[]
  instanceTypes := #[]
  staticTypes := #[]
  resolved := Array.replicate 11 none
  statics := none }

def pool8 : Array CpInfo := pool [(1, .class_ 2), (0, u "java/lang/constant/ConstantDesc"), (0, .class_ 4), (0, u "java/lang/Object")] 32

/-- java/lang/constant/ConstantDesc -/
def k8 : Class := { plain "java/lang/constant/ConstantDesc" (some 0) with
  accessFlags := 1537
  interfaces := #[]
  cf := some (fileOf pool8 1 #[] #[] 1537 3 #[] #[])
  fields := #[]
  methods := #[]
  instanceTypes := #[]
  staticTypes := #[]
  resolved := Array.replicate 37 none
  statics := none }

def pool9 : Array CpInfo := pool [(1, .class_ 2), (0, u "java/lang/Long"), (55, .nameAndType 59 60), (0, u "<init>"), (0, u "()V"), (24, u "valueOf"), (143, u "(J)Ljava/lang/Long;"), (0, .long 18446744073709551488), (1, .long 127), (1, .fieldref 235 236), (0, .class_ 237), (0, .nameAndType 238 239), (0, u "java/lang/Long$LongCache"), (0, u "cache"), (0, u "[Ljava/lang/Long;"), (0, .methodref 1 241), (0, .nameAndType 59 242), (0, u "(J)V"), (27, .methodref 271 58), (0, .class_ 272), (0, u "java/lang/Number"), (0, .fieldref 1 274), (0, .nameAndType 275 276), (0, u "value"), (0, u "J"), (84, u "TYPE"), (0, u "Ljava/lang/Class;"), (0, .class_ 364), (0, u "java/lang/Comparable"), (0, .class_ 366), (0, u "java/lang/constant/Constable"), (0, .class_ 368), (0, u "java/lang/constant/ConstantDesc"), (0, u "MIN_VALUE"), (1, u "MAX_VALUE"), (4, u "SIZE"), (0, u "I"), (1, u "BYTES"), (1, u "serialVersionUID")] 142

def k9c0 : Code := { maxStack := 4, maxLocals := 3, code := jdk_35_method_24_code, exceptionTable := #[], attributes := #[] }
def k9m0 : Method := { name := "valueOf", desc := "(J)Ljava/lang/Long;", sig := { parameters := [.long], returnType := some (.object "java/lang/Long") }, accessFlags := 9, code := some k9c0 }
def k9c1 : Code := { maxStack := 3, maxLocals := 3, code := jdk_35_method_26_code, exceptionTable := #[], attributes := #[] }
def k9m1 : Method := { name := "<init>", desc := "(J)V", sig := { parameters := [.long], returnType := none }, accessFlags := 1, code := some k9c1 }
/-- java/lang/Long -/
def k9 : Class := { plain "java/lang/Long" (some 5) with
  accessFlags := 49
  interfaces := #[6, 7, 8]
  cf := some (fileOf pool9 1 #[.nestMembers #[235]] #[{ accessFlags := 9, nameIndex := 85, descriptorIndex := 229, attributes := #[] }, { accessFlags := 1, nameIndex := 59, descriptorIndex := 242, attributes := #[] }] 49 271 #[363, 365, 367] #[{ accessFlags := 25, nameIndex := 369, descriptorIndex := 276, attributes := #[] }, { accessFlags := 25, nameIndex := 371, descriptorIndex := 276, attributes := #[] }, { accessFlags := 25, nameIndex := 361, descriptorIndex := 362, attributes := #[] }, { accessFlags := 18, nameIndex := 275, descriptorIndex := 276, attributes := #[] }, { accessFlags := 25, nameIndex := 376, descriptorIndex := 377, attributes := #[] }, { accessFlags := 25, nameIndex := 379, descriptorIndex := 377, attributes := #[] }, { accessFlags := 26, nameIndex := 381, descriptorIndex := 276, attributes := #[] }])
  fields := #[{ name := "MIN_VALUE", type := .long, accessFlags := 25, slot := 0, constantValue := 0 }, { name := "MAX_VALUE", type := .long, accessFlags := 25, slot := 1, constantValue := 0 }, { name := "TYPE", type := (.object "java/lang/Class"), accessFlags := 25, slot := 2, constantValue := 0 }, { name := "value", type := .long, accessFlags := 18, slot := 0, constantValue := 0 }, { name := "SIZE", type := .int, accessFlags := 25, slot := 3, constantValue := 0 }, { name := "BYTES", type := .int, accessFlags := 25, slot := 4, constantValue := 0 }, { name := "serialVersionUID", type := .long, accessFlags := 26, slot := 5, constantValue := 0 }]
  methods := #[k9m0, k9m1]
  instanceTypes := #[.long]
  staticTypes := #[.long, .long, (.object "java/lang/Class"), .int, .int, .long]
  resolved := Array.replicate 524 none
  statics := none }

def pool10 : Array CpInfo := pool [(2, .class_ 4), (1, u "java/lang/Object"), (0, u "<init>"), (0, u "()V"), (0, .class_ 8), (0, u "java/lang/Long"), (7, .class_ 18), (1, u "java/lang/Long$LongCache"), (0, u "$assertionsDisabled"), (0, u "Z"), (8, u "archivedCache"), (0, u "[Ljava/lang/Long;"), (7, u "cache")] 24

def k10m0 : Method := { name := "<init>", desc := "()V", sig := { parameters := [], returnType := none }, accessFlags := 2, code := none }
/-- java/lang/Long$LongCache -/
def k10 : Class := { plain "java/lang/Long$LongCache" (some 0) with
  accessFlags := 48
  interfaces := #[]
  cf := some (fileOf pool10 16 #[.nestHost 7] #[{ accessFlags := 2, nameIndex := 5, descriptorIndex := 6, attributes := #[] }] 48 2 #[] #[{ accessFlags := 24, nameIndex := 38, descriptorIndex := 30, attributes := #[] }, { accessFlags := 8, nameIndex := 29, descriptorIndex := 30, attributes := #[] }, { accessFlags := 4120, nameIndex := 19, descriptorIndex := 20, attributes := #[] }])
  fields := #[{ name := "cache", type := (.array (.object "java/lang/Long")), accessFlags := 24, slot := 0, constantValue := 0 }, { name := "archivedCache", type := (.array (.object "java/lang/Long")), accessFlags := 8, slot := 1, constantValue := 0 }, { name := "$assertionsDisabled", type := .boolean, accessFlags := 4120, slot := 2, constantValue := 0 }]
  methods := #[k10m0]
  instanceTypes := #[]
  staticTypes := #[(.array (.object "java/lang/Long")), (.array (.object "java/lang/Long")), .boolean]
  resolved := Array.replicate 63 none
  statics := some 0 }

def pool11 : Array CpInfo := pool [(1, u "java/lang/Cloneable"), (0, .class_ 1), (0, u "java/lang/Object"), (0, .class_ 3)] 3

/-- java/lang/Cloneable -/
def k11 : Class := { plain "java/lang/Cloneable" (some 0) with
  accessFlags := 1537
  interfaces := #[]
  cf := some (fileOf pool11 2 #[] #[] 1537 4 #[] #[])
  fields := #[]
  methods := #[]
  instanceTypes := #[]
  staticTypes := #[]
  resolved := Array.replicate 8 none
  statics := none }

/-- the primitive byte -/
def k12 : Class := { plain "byte" none with kind := .primitive 'B', accessFlags := 0x411 }
/-- [B -/
def k13 : Class := { plain "[B" (some 0) with kind := .array 12 .byte, interfaces := #[11, 4], accessFlags := 1041 }

/-- the primitive int -/
def k14 : Class := { plain "int" none with kind := .primitive 'I', accessFlags := 0x411 }
/-- [I -/
def k15 : Class := { plain "[I" (some 0) with kind := .array 14 .int, interfaces := #[11, 4], accessFlags := 1041 }

/-- [Ljava/lang/Long; -/
def k16 : Class := { plain "[Ljava/lang/Long;" (some 0) with kind := .array 9 (.object "java/lang/Long"), interfaces := #[11, 4], accessFlags := 1041 }

def heap : Heap := #[{ cls := 10, slots := #[.ref 1, .null, .int 0], vm := .statics 10 },
  { cls := 16, slots := #[.ref 2, .ref 3, .ref 4, .ref 5, .ref 6, .ref 7, .ref 8, .ref 9, .ref 10, .ref 11, .ref 12, .ref 13, .ref 14, .ref 15, .ref 16, .ref 17, .ref 18, .ref 19, .ref 20, .ref 21, .ref 22, .ref 23, .ref 24, .ref 25, .ref 26, .ref 27, .ref 28, .ref 29, .ref 30, .ref 31, .ref 32, .ref 33, .ref 34, .ref 35, .ref 36, .ref 37, .ref 38, .ref 39, .ref 40, .ref 41, .ref 42, .ref 43, .ref 44, .ref 45, .ref 46, .ref 47, .ref 48, .ref 49, .ref 50, .ref 51, .ref 52, .ref 53, .ref 54, .ref 55, .ref 56, .ref 57, .ref 58, .ref 59, .ref 60, .ref 61, .ref 62, .ref 63, .ref 64, .ref 65, .ref 66, .ref 67, .ref 68, .ref 69, .ref 70, .ref 71, .ref 72, .ref 73, .ref 74, .ref 75, .ref 76, .ref 77, .ref 78, .ref 79, .ref 80, .ref 81, .ref 82, .ref 83, .ref 84, .ref 85, .ref 86, .ref 87, .ref 88, .ref 89, .ref 90, .ref 91, .ref 92, .ref 93, .ref 94, .ref 95, .ref 96, .ref 97, .ref 98, .ref 99, .ref 100, .ref 101, .ref 102, .ref 103, .ref 104, .ref 105, .ref 106, .ref 107, .ref 108, .ref 109, .ref 110, .ref 111, .ref 112, .ref 113, .ref 114, .ref 115, .ref 116, .ref 117, .ref 118, .ref 119, .ref 120, .ref 121, .ref 122, .ref 123, .ref 124, .ref 125, .ref 126, .ref 127, .ref 128, .ref 129, .ref 130, .ref 131, .ref 132, .ref 133, .ref 134, .ref 135, .ref 136, .ref 137, .ref 138, .ref 139, .ref 140, .ref 141, .ref 142, .ref 143, .ref 144, .ref 145, .ref 146, .ref 147, .ref 148, .ref 149, .ref 150, .ref 151, .ref 152, .ref 153, .ref 154, .ref 155, .ref 156, .ref 157, .ref 158, .ref 159, .ref 160, .ref 161, .ref 162, .ref 163, .ref 164, .ref 165, .ref 166, .ref 167, .ref 168, .ref 169, .ref 170, .ref 171, .ref 172, .ref 173, .ref 174, .ref 175, .ref 176, .ref 177, .ref 178, .ref 179, .ref 180, .ref 181, .ref 182, .ref 183, .ref 184, .ref 185, .ref 186, .ref 187, .ref 188, .ref 189, .ref 190, .ref 191, .ref 192, .ref 193, .ref 194, .ref 195, .ref 196, .ref 197, .ref 198, .ref 199, .ref 200, .ref 201, .ref 202, .ref 203, .ref 204, .ref 205, .ref 206, .ref 207, .ref 208, .ref 209, .ref 210, .ref 211, .ref 212, .ref 213, .ref 214, .ref 215, .ref 216, .ref 217, .ref 218, .ref 219, .ref 220, .ref 221, .ref 222, .ref 223, .ref 224, .ref 225, .ref 226, .ref 227, .ref 228, .ref 229, .ref 230, .ref 231, .ref 232, .ref 233, .ref 234, .ref 235, .ref 236, .ref 237, .ref 238, .ref 239, .ref 240, .ref 241, .ref 242, .ref 243, .ref 244, .ref 245, .ref 246, .ref 247, .ref 248, .ref 249, .ref 250, .ref 251, .ref 252, .ref 253, .ref 254, .ref 255, .ref 256, .ref 257], vm := .none },
  { cls := 9, slots := #[.long (-128)], vm := .none },
  { cls := 9, slots := #[.long (-127)], vm := .none },
  { cls := 9, slots := #[.long (-126)], vm := .none },
  { cls := 9, slots := #[.long (-125)], vm := .none },
  { cls := 9, slots := #[.long (-124)], vm := .none },
  { cls := 9, slots := #[.long (-123)], vm := .none },
  { cls := 9, slots := #[.long (-122)], vm := .none },
  { cls := 9, slots := #[.long (-121)], vm := .none },
  { cls := 9, slots := #[.long (-120)], vm := .none },
  { cls := 9, slots := #[.long (-119)], vm := .none },
  { cls := 9, slots := #[.long (-118)], vm := .none },
  { cls := 9, slots := #[.long (-117)], vm := .none },
  { cls := 9, slots := #[.long (-116)], vm := .none },
  { cls := 9, slots := #[.long (-115)], vm := .none },
  { cls := 9, slots := #[.long (-114)], vm := .none },
  { cls := 9, slots := #[.long (-113)], vm := .none },
  { cls := 9, slots := #[.long (-112)], vm := .none },
  { cls := 9, slots := #[.long (-111)], vm := .none },
  { cls := 9, slots := #[.long (-110)], vm := .none },
  { cls := 9, slots := #[.long (-109)], vm := .none },
  { cls := 9, slots := #[.long (-108)], vm := .none },
  { cls := 9, slots := #[.long (-107)], vm := .none },
  { cls := 9, slots := #[.long (-106)], vm := .none },
  { cls := 9, slots := #[.long (-105)], vm := .none },
  { cls := 9, slots := #[.long (-104)], vm := .none },
  { cls := 9, slots := #[.long (-103)], vm := .none },
  { cls := 9, slots := #[.long (-102)], vm := .none },
  { cls := 9, slots := #[.long (-101)], vm := .none },
  { cls := 9, slots := #[.long (-100)], vm := .none },
  { cls := 9, slots := #[.long (-99)], vm := .none },
  { cls := 9, slots := #[.long (-98)], vm := .none },
  { cls := 9, slots := #[.long (-97)], vm := .none },
  { cls := 9, slots := #[.long (-96)], vm := .none },
  { cls := 9, slots := #[.long (-95)], vm := .none },
  { cls := 9, slots := #[.long (-94)], vm := .none },
  { cls := 9, slots := #[.long (-93)], vm := .none },
  { cls := 9, slots := #[.long (-92)], vm := .none },
  { cls := 9, slots := #[.long (-91)], vm := .none },
  { cls := 9, slots := #[.long (-90)], vm := .none },
  { cls := 9, slots := #[.long (-89)], vm := .none },
  { cls := 9, slots := #[.long (-88)], vm := .none },
  { cls := 9, slots := #[.long (-87)], vm := .none },
  { cls := 9, slots := #[.long (-86)], vm := .none },
  { cls := 9, slots := #[.long (-85)], vm := .none },
  { cls := 9, slots := #[.long (-84)], vm := .none },
  { cls := 9, slots := #[.long (-83)], vm := .none },
  { cls := 9, slots := #[.long (-82)], vm := .none },
  { cls := 9, slots := #[.long (-81)], vm := .none },
  { cls := 9, slots := #[.long (-80)], vm := .none },
  { cls := 9, slots := #[.long (-79)], vm := .none },
  { cls := 9, slots := #[.long (-78)], vm := .none },
  { cls := 9, slots := #[.long (-77)], vm := .none },
  { cls := 9, slots := #[.long (-76)], vm := .none },
  { cls := 9, slots := #[.long (-75)], vm := .none },
  { cls := 9, slots := #[.long (-74)], vm := .none },
  { cls := 9, slots := #[.long (-73)], vm := .none },
  { cls := 9, slots := #[.long (-72)], vm := .none },
  { cls := 9, slots := #[.long (-71)], vm := .none },
  { cls := 9, slots := #[.long (-70)], vm := .none },
  { cls := 9, slots := #[.long (-69)], vm := .none },
  { cls := 9, slots := #[.long (-68)], vm := .none },
  { cls := 9, slots := #[.long (-67)], vm := .none },
  { cls := 9, slots := #[.long (-66)], vm := .none },
  { cls := 9, slots := #[.long (-65)], vm := .none },
  { cls := 9, slots := #[.long (-64)], vm := .none },
  { cls := 9, slots := #[.long (-63)], vm := .none },
  { cls := 9, slots := #[.long (-62)], vm := .none },
  { cls := 9, slots := #[.long (-61)], vm := .none },
  { cls := 9, slots := #[.long (-60)], vm := .none },
  { cls := 9, slots := #[.long (-59)], vm := .none },
  { cls := 9, slots := #[.long (-58)], vm := .none },
  { cls := 9, slots := #[.long (-57)], vm := .none },
  { cls := 9, slots := #[.long (-56)], vm := .none },
  { cls := 9, slots := #[.long (-55)], vm := .none },
  { cls := 9, slots := #[.long (-54)], vm := .none },
  { cls := 9, slots := #[.long (-53)], vm := .none },
  { cls := 9, slots := #[.long (-52)], vm := .none },
  { cls := 9, slots := #[.long (-51)], vm := .none },
  { cls := 9, slots := #[.long (-50)], vm := .none },
  { cls := 9, slots := #[.long (-49)], vm := .none },
  { cls := 9, slots := #[.long (-48)], vm := .none },
  { cls := 9, slots := #[.long (-47)], vm := .none },
  { cls := 9, slots := #[.long (-46)], vm := .none },
  { cls := 9, slots := #[.long (-45)], vm := .none },
  { cls := 9, slots := #[.long (-44)], vm := .none },
  { cls := 9, slots := #[.long (-43)], vm := .none },
  { cls := 9, slots := #[.long (-42)], vm := .none },
  { cls := 9, slots := #[.long (-41)], vm := .none },
  { cls := 9, slots := #[.long (-40)], vm := .none },
  { cls := 9, slots := #[.long (-39)], vm := .none },
  { cls := 9, slots := #[.long (-38)], vm := .none },
  { cls := 9, slots := #[.long (-37)], vm := .none },
  { cls := 9, slots := #[.long (-36)], vm := .none },
  { cls := 9, slots := #[.long (-35)], vm := .none },
  { cls := 9, slots := #[.long (-34)], vm := .none },
  { cls := 9, slots := #[.long (-33)], vm := .none },
  { cls := 9, slots := #[.long (-32)], vm := .none },
  { cls := 9, slots := #[.long (-31)], vm := .none },
  { cls := 9, slots := #[.long (-30)], vm := .none },
  { cls := 9, slots := #[.long (-29)], vm := .none },
  { cls := 9, slots := #[.long (-28)], vm := .none },
  { cls := 9, slots := #[.long (-27)], vm := .none },
  { cls := 9, slots := #[.long (-26)], vm := .none },
  { cls := 9, slots := #[.long (-25)], vm := .none },
  { cls := 9, slots := #[.long (-24)], vm := .none },
  { cls := 9, slots := #[.long (-23)], vm := .none },
  { cls := 9, slots := #[.long (-22)], vm := .none },
  { cls := 9, slots := #[.long (-21)], vm := .none },
  { cls := 9, slots := #[.long (-20)], vm := .none },
  { cls := 9, slots := #[.long (-19)], vm := .none },
  { cls := 9, slots := #[.long (-18)], vm := .none },
  { cls := 9, slots := #[.long (-17)], vm := .none },
  { cls := 9, slots := #[.long (-16)], vm := .none },
  { cls := 9, slots := #[.long (-15)], vm := .none },
  { cls := 9, slots := #[.long (-14)], vm := .none },
  { cls := 9, slots := #[.long (-13)], vm := .none },
  { cls := 9, slots := #[.long (-12)], vm := .none },
  { cls := 9, slots := #[.long (-11)], vm := .none },
  { cls := 9, slots := #[.long (-10)], vm := .none },
  { cls := 9, slots := #[.long (-9)], vm := .none },
  { cls := 9, slots := #[.long (-8)], vm := .none },
  { cls := 9, slots := #[.long (-7)], vm := .none },
  { cls := 9, slots := #[.long (-6)], vm := .none },
  { cls := 9, slots := #[.long (-5)], vm := .none },
  { cls := 9, slots := #[.long (-4)], vm := .none },
  { cls := 9, slots := #[.long (-3)], vm := .none },
  { cls := 9, slots := #[.long (-2)], vm := .none },
  { cls := 9, slots := #[.long (-1)], vm := .none },
  { cls := 9, slots := #[.long (0)], vm := .none },
  { cls := 9, slots := #[.long (1)], vm := .none },
  { cls := 9, slots := #[.long (2)], vm := .none },
  { cls := 9, slots := #[.long (3)], vm := .none },
  { cls := 9, slots := #[.long (4)], vm := .none },
  { cls := 9, slots := #[.long (5)], vm := .none },
  { cls := 9, slots := #[.long (6)], vm := .none },
  { cls := 9, slots := #[.long (7)], vm := .none },
  { cls := 9, slots := #[.long (8)], vm := .none },
  { cls := 9, slots := #[.long (9)], vm := .none },
  { cls := 9, slots := #[.long (10)], vm := .none },
  { cls := 9, slots := #[.long (11)], vm := .none },
  { cls := 9, slots := #[.long (12)], vm := .none },
  { cls := 9, slots := #[.long (13)], vm := .none },
  { cls := 9, slots := #[.long (14)], vm := .none },
  { cls := 9, slots := #[.long (15)], vm := .none },
  { cls := 9, slots := #[.long (16)], vm := .none },
  { cls := 9, slots := #[.long (17)], vm := .none },
  { cls := 9, slots := #[.long (18)], vm := .none },
  { cls := 9, slots := #[.long (19)], vm := .none },
  { cls := 9, slots := #[.long (20)], vm := .none },
  { cls := 9, slots := #[.long (21)], vm := .none },
  { cls := 9, slots := #[.long (22)], vm := .none },
  { cls := 9, slots := #[.long (23)], vm := .none },
  { cls := 9, slots := #[.long (24)], vm := .none },
  { cls := 9, slots := #[.long (25)], vm := .none },
  { cls := 9, slots := #[.long (26)], vm := .none },
  { cls := 9, slots := #[.long (27)], vm := .none },
  { cls := 9, slots := #[.long (28)], vm := .none },
  { cls := 9, slots := #[.long (29)], vm := .none },
  { cls := 9, slots := #[.long (30)], vm := .none },
  { cls := 9, slots := #[.long (31)], vm := .none },
  { cls := 9, slots := #[.long (32)], vm := .none },
  { cls := 9, slots := #[.long (33)], vm := .none },
  { cls := 9, slots := #[.long (34)], vm := .none },
  { cls := 9, slots := #[.long (35)], vm := .none },
  { cls := 9, slots := #[.long (36)], vm := .none },
  { cls := 9, slots := #[.long (37)], vm := .none },
  { cls := 9, slots := #[.long (38)], vm := .none },
  { cls := 9, slots := #[.long (39)], vm := .none },
  { cls := 9, slots := #[.long (40)], vm := .none },
  { cls := 9, slots := #[.long (41)], vm := .none },
  { cls := 9, slots := #[.long (42)], vm := .none },
  { cls := 9, slots := #[.long (43)], vm := .none },
  { cls := 9, slots := #[.long (44)], vm := .none },
  { cls := 9, slots := #[.long (45)], vm := .none },
  { cls := 9, slots := #[.long (46)], vm := .none },
  { cls := 9, slots := #[.long (47)], vm := .none },
  { cls := 9, slots := #[.long (48)], vm := .none },
  { cls := 9, slots := #[.long (49)], vm := .none },
  { cls := 9, slots := #[.long (50)], vm := .none },
  { cls := 9, slots := #[.long (51)], vm := .none },
  { cls := 9, slots := #[.long (52)], vm := .none },
  { cls := 9, slots := #[.long (53)], vm := .none },
  { cls := 9, slots := #[.long (54)], vm := .none },
  { cls := 9, slots := #[.long (55)], vm := .none },
  { cls := 9, slots := #[.long (56)], vm := .none },
  { cls := 9, slots := #[.long (57)], vm := .none },
  { cls := 9, slots := #[.long (58)], vm := .none },
  { cls := 9, slots := #[.long (59)], vm := .none },
  { cls := 9, slots := #[.long (60)], vm := .none },
  { cls := 9, slots := #[.long (61)], vm := .none },
  { cls := 9, slots := #[.long (62)], vm := .none },
  { cls := 9, slots := #[.long (63)], vm := .none },
  { cls := 9, slots := #[.long (64)], vm := .none },
  { cls := 9, slots := #[.long (65)], vm := .none },
  { cls := 9, slots := #[.long (66)], vm := .none },
  { cls := 9, slots := #[.long (67)], vm := .none },
  { cls := 9, slots := #[.long (68)], vm := .none },
  { cls := 9, slots := #[.long (69)], vm := .none },
  { cls := 9, slots := #[.long (70)], vm := .none },
  { cls := 9, slots := #[.long (71)], vm := .none },
  { cls := 9, slots := #[.long (72)], vm := .none },
  { cls := 9, slots := #[.long (73)], vm := .none },
  { cls := 9, slots := #[.long (74)], vm := .none },
  { cls := 9, slots := #[.long (75)], vm := .none },
  { cls := 9, slots := #[.long (76)], vm := .none },
  { cls := 9, slots := #[.long (77)], vm := .none },
  { cls := 9, slots := #[.long (78)], vm := .none },
  { cls := 9, slots := #[.long (79)], vm := .none },
  { cls := 9, slots := #[.long (80)], vm := .none },
  { cls := 9, slots := #[.long (81)], vm := .none },
  { cls := 9, slots := #[.long (82)], vm := .none },
  { cls := 9, slots := #[.long (83)], vm := .none },
  { cls := 9, slots := #[.long (84)], vm := .none },
  { cls := 9, slots := #[.long (85)], vm := .none },
  { cls := 9, slots := #[.long (86)], vm := .none },
  { cls := 9, slots := #[.long (87)], vm := .none },
  { cls := 9, slots := #[.long (88)], vm := .none },
  { cls := 9, slots := #[.long (89)], vm := .none },
  { cls := 9, slots := #[.long (90)], vm := .none },
  { cls := 9, slots := #[.long (91)], vm := .none },
  { cls := 9, slots := #[.long (92)], vm := .none },
  { cls := 9, slots := #[.long (93)], vm := .none },
  { cls := 9, slots := #[.long (94)], vm := .none },
  { cls := 9, slots := #[.long (95)], vm := .none },
  { cls := 9, slots := #[.long (96)], vm := .none },
  { cls := 9, slots := #[.long (97)], vm := .none },
  { cls := 9, slots := #[.long (98)], vm := .none },
  { cls := 9, slots := #[.long (99)], vm := .none },
  { cls := 9, slots := #[.long (100)], vm := .none },
  { cls := 9, slots := #[.long (101)], vm := .none },
  { cls := 9, slots := #[.long (102)], vm := .none },
  { cls := 9, slots := #[.long (103)], vm := .none },
  { cls := 9, slots := #[.long (104)], vm := .none },
  { cls := 9, slots := #[.long (105)], vm := .none },
  { cls := 9, slots := #[.long (106)], vm := .none },
  { cls := 9, slots := #[.long (107)], vm := .none },
  { cls := 9, slots := #[.long (108)], vm := .none },
  { cls := 9, slots := #[.long (109)], vm := .none },
  { cls := 9, slots := #[.long (110)], vm := .none },
  { cls := 9, slots := #[.long (111)], vm := .none },
  { cls := 9, slots := #[.long (112)], vm := .none },
  { cls := 9, slots := #[.long (113)], vm := .none },
  { cls := 9, slots := #[.long (114)], vm := .none },
  { cls := 9, slots := #[.long (115)], vm := .none },
  { cls := 9, slots := #[.long (116)], vm := .none },
  { cls := 9, slots := #[.long (117)], vm := .none },
  { cls := 9, slots := #[.long (118)], vm := .none },
  { cls := 9, slots := #[.long (119)], vm := .none },
  { cls := 9, slots := #[.long (120)], vm := .none },
  { cls := 9, slots := #[.long (121)], vm := .none },
  { cls := 9, slots := #[.long (122)], vm := .none },
  { cls := 9, slots := #[.long (123)], vm := .none },
  { cls := 9, slots := #[.long (124)], vm := .none },
  { cls := 9, slots := #[.long (125)], vm := .none },
  { cls := 9, slots := #[.long (126)], vm := .none },
  { cls := 9, slots := #[.long (127)], vm := .none }]
def classes : Array Class := #[k0, k1, k2, k3, k4, k5, k6, k7, k8, k9, k10, k11, k12, k13, k14, k15, k16]
def interned : List (Array UInt16 × Addr) := []
def slotsUsed : Nat := 515
def theMethod : MethodId := ⟨1, 1⟩
def args0 : Array Value := #[.long 5, .long 6, .long 7, .long 8, .long 9, .int 3]
def aboutOver (below : List Frame) : State where
  vm := { classes := classes, interned := interned.toArray }
  heap := heap
  slotsUsed := slotsUsed
  threads := #[{ frames := .invoking theMethod args0 :: below }]
def below0 : List Frame := [.native { method := ⟨0, 0⟩, args := #[] }]
def about1 : State := aboutOver below0
def p0 : Program := .bare "" "" ""
def e0 : Env := launch0.env 0 0 0
theorem w_frames : about1.frames = Frame.invoking theMethod args0 :: below0 := rfl
set_option maxRecDepth 65536 in
theorem w_args : argsFit about1.vm theMethod args0 = true := by decide +kernel
set_option maxRecDepth 65536 in
theorem w_heap : heapFits about1 = true := by decide +kernel
set_option maxRecDepth 65536 in
theorem w_runnable : about1.curStatus? = some .runnable := by decide +kernel
set_option maxRecDepth 65536 in
theorem w_alone : about1.alone = true := by decide +kernel
set_option maxRecDepth 65536 in
theorem w_named : about1.methodNamed? x = some theMethod := by decide +kernel
set_option maxRecDepth 65536 in
theorem w_hears : about1.hears theMethod below0 = true := by decide +kernel
set_option maxRecDepth 65536 in
theorem w_ripe : about1.ripe theMethod args0 below0 = true := by decide +kernel
theorem w_running : about1.status = .running := rfl
set_option maxRecDepth 65536 in
theorem w_room : about1.hasRoom e0.platform room_1 = true :=
  launch0.hasRoom_least _ room_1 (by decide +kernel) (by decide +kernel) (by decide +kernel) (by decide +kernel) (by decide +kernel) (by decide +kernel)
theorem allAtoms_all (ts : List Jvm.Cond) (a : Array Jvm.Value) (st : Jvm.State) : (allAtoms ts).before a st = ts.all (fun c => c.before a st) := by
  induction ts with
  | nil => rfl
  | cons c t ih =>
    show (Jvm.Cond.and c (allAtoms t)).before a st = _
    rw [Jvm.Cond.before_and, ih, List.all_cons]
def words1 : List Jvm.Cond := Jvm.Cond.code x code maxLocals ret :: tables_1
/-- a 'code' word, met by the world's own term for the bytes: nothing is compared byte by byte -/
theorem code_word {y : MethodName} {bytes : ByteArray} {mx : Nat} {rt : Option FieldType} {a : Array Value} {s : State} {m : MethodId} {meth : Method} {c : Code} (h1 : s.methodNamed? y = some m) (h2 : s.vm.method? m = some meth) (h3 : meth.code = some c) (h4 : c.code = bytes)
    (h5 : (c.maxLocals == mx && c.exceptionTable.isEmpty && decide (c.maxStack ≤ mostOperands) && decide (meth.sig.returnType = rt) && !meth.locks && decide (parseMethodDescriptor y.desc = some meth.sig)) = true) : (Jvm.Cond.code y bytes mx rt).before a s = true := by
  simp only [Bool.and_eq_true, beq_iff_eq, Bool.not_eq_true', decide_eq_true_eq] at h5
  obtain ⟨⟨⟨⟨⟨g1, g2⟩, g3⟩, g4⟩, g5⟩, g6⟩ := h5
  simp [Cond.before, Cond.holds, Cond.value, h1, h2, h3, h4, g1, g2, g3, g4, g5, g6]
def isCode : Jvm.Cond → Bool
  | .code _ _ _ _ => true
  | _ => false
theorem all_split {L : List Jvm.Cond} {P : Jvm.Cond → Bool} (h1 : L.all (fun c => isCode c || P c) = true) (h2 : ∀ c ∈ L.filter isCode, P c = true) : L.all P = true := by
  refine List.all_eq_true.mpr fun c hc => ?_
  have h := List.all_eq_true.mp h1 c hc
  rcases Bool.eq_false_or_eq_true (isCode c) with hi | hi
  · exact h2 c (List.mem_filter.mpr ⟨hc, hi⟩)
  · simpa [hi] using h
set_option maxRecDepth 65536 in
theorem w_c0 : (Jvm.Cond.code x code maxLocals ret).before args0 about1 = true := code_word (m := ⟨1, 1⟩) (meth := k1m1) (c := k1c1) (by decide +kernel) rfl rfl rfl (by decide +kernel)
set_option maxRecDepth 65536 in
theorem w_c1 : (Jvm.Cond.code ({ cls := "com/example/quayside/quayside/FileStamp", name := "<init>", desc := "(JJJJ)V" } : Jvm.MethodName) prog_27_method_1_code (9 : Nat) (Option.none : Option Jvm.ClassFile.FieldType)).before args0 about1 = true := code_word (m := ⟨3, 0⟩) (meth := k3m0) (c := k3c0) (by decide +kernel) rfl rfl rfl (by decide +kernel)
set_option maxRecDepth 65536 in
theorem w_c2 : (Jvm.Cond.code ({ cls := "java/lang/Record", name := "<init>", desc := "()V" } : Jvm.MethodName) jdk_30_method_1_code (1 : Nat) (Option.none : Option Jvm.ClassFile.FieldType)).before args0 about1 = true := code_word (m := ⟨2, 0⟩) (meth := k2m0) (c := k2c0) (by decide +kernel) rfl rfl rfl (by decide +kernel)
set_option maxRecDepth 65536 in
theorem w_c3 : (Jvm.Cond.code ({ cls := "java/lang/Object", name := "<init>", desc := "()V" } : Jvm.MethodName) object_method_1_code (1 : Nat) (Option.none : Option Jvm.ClassFile.FieldType)).before args0 about1 = true := code_word (m := ⟨0, 0⟩) (meth := k0m0) (c := k0c0) (by decide +kernel) rfl rfl rfl (by decide +kernel)
set_option maxRecDepth 65536 in
theorem w_c4 : (Jvm.Cond.code ({ cls := "com/example/quayside/quayside/FileStamp", name := "equals", desc := "(Ljava/lang/Object;)Z" } : Jvm.MethodName) prog_27_method_3_code (3 : Nat) (Option.some Jvm.ClassFile.FieldType.boolean)).before args0 about1 = true := code_word (m := ⟨3, 1⟩) (meth := k3m1) (c := k3c1) (by decide +kernel) rfl rfl rfl (by decide +kernel)
set_option maxRecDepth 65536 in
theorem w_c5 : (Jvm.Cond.code ({ cls := "java/lang/Long", name := "valueOf", desc := "(J)Ljava/lang/Long;" } : Jvm.MethodName) jdk_35_method_24_code (3 : Nat) (Option.some (Jvm.ClassFile.FieldType.object "java/lang/Long"))).before args0 about1 = true := code_word (m := ⟨9, 0⟩) (meth := k9m0) (c := k9c0) (by decide +kernel) rfl rfl rfl (by decide +kernel)
set_option maxRecDepth 65536 in
theorem w_c6 : (Jvm.Cond.code ({ cls := "java/lang/Long", name := "<init>", desc := "(J)V" } : Jvm.MethodName) jdk_35_method_26_code (3 : Nat) (Option.none : Option Jvm.ClassFile.FieldType)).before args0 about1 = true := code_word (m := ⟨9, 1⟩) (meth := k9m1) (c := k9c1) (by decide +kernel) rfl rfl rfl (by decide +kernel)
set_option maxRecDepth 65536 in
theorem w_c7 : (Jvm.Cond.code ({ cls := "java/lang/Number", name := "<init>", desc := "()V" } : Jvm.MethodName) jdk_18_method_1_code (1 : Nat) (Option.none : Option Jvm.ClassFile.FieldType)).before args0 about1 = true := code_word (m := ⟨5, 0⟩) (meth := k5m0) (c := k5c0) (by decide +kernel) rfl rfl rfl (by decide +kernel)
def codes1 : List Jvm.Cond := [Jvm.Cond.code x code maxLocals ret, Jvm.Cond.code ({ cls := "com/example/quayside/quayside/FileStamp", name := "<init>", desc := "(JJJJ)V" } : Jvm.MethodName) prog_27_method_1_code (9 : Nat) (Option.none : Option Jvm.ClassFile.FieldType), Jvm.Cond.code ({ cls := "java/lang/Record", name := "<init>", desc := "()V" } : Jvm.MethodName) jdk_30_method_1_code (1 : Nat) (Option.none : Option Jvm.ClassFile.FieldType), Jvm.Cond.code ({ cls := "java/lang/Object", name := "<init>", desc := "()V" } : Jvm.MethodName) object_method_1_code (1 : Nat) (Option.none : Option Jvm.ClassFile.FieldType), Jvm.Cond.code ({ cls := "com/example/quayside/quayside/FileStamp", name := "equals", desc := "(Ljava/lang/Object;)Z" } : Jvm.MethodName) prog_27_method_3_code (3 : Nat) (Option.some Jvm.ClassFile.FieldType.boolean), Jvm.Cond.code ({ cls := "java/lang/Long", name := "valueOf", desc := "(J)Ljava/lang/Long;" } : Jvm.MethodName) jdk_35_method_24_code (3 : Nat) (Option.some (Jvm.ClassFile.FieldType.object "java/lang/Long")), Jvm.Cond.code ({ cls := "java/lang/Long", name := "<init>", desc := "(J)V" } : Jvm.MethodName) jdk_35_method_26_code (3 : Nat) (Option.none : Option Jvm.ClassFile.FieldType), Jvm.Cond.code ({ cls := "java/lang/Number", name := "<init>", desc := "()V" } : Jvm.MethodName) jdk_18_method_1_code (1 : Nat) (Option.none : Option Jvm.ClassFile.FieldType)]
set_option maxRecDepth 65536 in
theorem codes_eq : words1.filter isCode = codes1 := rfl
theorem w_codes : ∀ c ∈ words1.filter isCode, c.before args0 about1 = true := by
  rw [codes_eq]
  intro c hc
  simp only [codes1, List.mem_cons, List.not_mem_nil, or_false] at hc
  rcases hc with rfl | rfl | rfl | rfl | rfl | rfl | rfl | rfl
  · exact w_c0
  · exact w_c1
  · exact w_c2
  · exact w_c3
  · exact w_c4
  · exact w_c5
  · exact w_c6
  · exact w_c7
set_option maxRecDepth 65536 in
theorem w_t1 : (words1.take 24).all (fun c => isCode c || c.before args0 about1) = true := by decide +kernel
set_option maxRecDepth 65536 in
theorem w_t2 : ((words1.drop 24).take 24).all (fun c => isCode c || c.before args0 about1) = true := by decide +kernel
set_option maxRecDepth 65536 in
theorem w_t3 : ((words1.drop 24).drop 24).all (fun c => isCode c || c.before args0 about1) = true := by decide +kernel
theorem w_tables : (allAtoms (Jvm.Cond.code x code maxLocals ret :: tables_1)).before args0 about1 = true := by
  rw [allAtoms_all]
  show words1.all (fun c => c.before args0 about1) = true
  refine all_split ?_ w_codes
  rw [← List.take_append_drop 24 words1, List.all_append, w_t1, ← List.take_append_drop 24 (words1.drop 24), List.all_append, w_t2, w_t3]
  rfl
set_option maxRecDepth 65536 in
theorem w_rest : rest_1_c.before args0 about1 = true := by decide +kernel
set_option maxRecDepth 65536 in
theorem w_case : (Jvm.Cond.and given_1 narrow_1).before args0 about1 = true := by decide +kernel
theorem w_applies : (headSpec (Jvm.Cond.code x code maxLocals ret :: tables_1) room_1).applies x e0.platform about1 = true :=
  (Spec.applies_iff w_frames).mpr ⟨w_running, w_runnable, w_alone, w_named, w_hears, w_ripe, w_room, w_tables⟩
theorem atStart : AtStart classFile x code maxLocals ret World_1 tables_1 room_1 Calls_1 rest_1 Pre_1 launch0 p0 e0 about1 theMethod args0 below0 :=
  ⟨lists_1, trivial, launch0.admits_env _ _ _, launch0.least_env, fairChoices_fair.cas, fairChoices_fair.clock, w_frames, w_args, w_heap, w_applies, trivial, w_rest, w_case⟩
end start1
theorem witness_1 : WitnessClaimed_1 := ⟨start1.p0, start1.e0, start1.about1, start1.theMethod, start1.args0, start1.below0, start1.atStart⟩
end Jvm.Pilot.@@N@@
