import JvmDerived
import JvmDerived.Pilot.@@N@@Statement
import JvmDerived.Pilot.@@N@@Code
set_option linter.unusedVariables false
set_option linter.unusedSimpArgs false
namespace Jvm.Pilot.@@N@@
open Jvm Jvm.ClassFile Sem Op Lib Jvm.Free Jvm.Stand Jvm.LawKit Jvm.RoadKit Bundle Jvm.Pilot.@@N@@.Jvm.D
section Own
variable {p : Program} {l : Launch} {e : Env} {R : Room} {s : State} {m : MethodId} {args : Array Value} {below : List Frame} {meth : Method} {c : Code} {T : State} {locs : List Loc} {cells slots : Nat} {Z : State} {a0 : Array Value} {h h' : Heap}
theorem own_hb {c : ClassFile.Code} {code : ByteArray} (h : c.code = code) {pc : Nat} {r : Except ClassFile.DecodeError (ClassFile.Instr × Nat)} (h2 : ClassFile.decode code pc = r) : ClassFile.decode c.code pc = r := h ▸ h2
/-- from S the run comes to an end of the method of which QQ holds -/
def own_Go (p : Program) (e : Env) (below : List Frame) (S : State) (QQ : Outcome → State → Prop) : Prop :=
  ∃ s₂ o, Steps p.tables e below S s₂ ∧ s₂.status = .running ∧ Ended s₂ below o ∧ QQ o s₂
theorem own_Go.of {S S' : State} {QQ : Outcome → State → Prop} (h : ∀ t, Steps p.tables e below S' t → Steps p.tables e below S t) (g : own_Go p e below S' QQ) : own_Go p e below S QQ := by
  obtain ⟨a, b, h1, h2⟩ := g
  exact ⟨a, b, h _ h1, h2⟩
/-- how a walked body ends: it returns v, with Q of the value, the heap and the places written -/
def own_End (s : State) (Q : Option Value → Heap → List Loc → Prop) (C K : Nat) : Outcome → State → Prop :=
  fun o U' => ∃ v L, o = .returned v ∧ Q v U'.heap L ∧ FrameEnd s o U' L C K
/-- the contract of a body, as RoadKit.backOf takes it -/
abbrev own_Met (l : Launch) (Z : State) (h0 : Heap) (y : MethodName) (bytes : ByteArray) (maxL : Nat) (ret : Option FieldType) (ws : List Jvm.Cond) (rm : Room) (as' : Array Value) (Q : Option Value → Heap → List Loc → Prop) : Prop :=
  MetFree l y (head1 (Jvm.Cond.code y bytes maxL ret :: ws) rm) (fun a U => a = as' ∧ Z.Warmed39 U.vm ∧ U.heap = h0) (fun _ _ _ _ _ => True) (fun _ U o U' => ∃ v L, o = .returned v ∧ Q v U'.heap L ∧ FrameEnd U o U' L rm.cells rm.slots)
theorem own_enter {h0 : Heap} {y : MethodName} {bytes : ByteArray} {maxL : Nat} {ret : Option FieldType} {ws : List Jvm.Cond} {rm : Room} {as' : Array Value} {Q : Option Value → Heap → List Loc → Prop} (hpl : plainFor y = true)
    (body : ∀ (p : Program) (e : Env) (s : State) (m : MethodId) (below : List Frame) (meth : Method) (c : Code) (T0 : State), Stand p l e rm s m as' below meth c T0 [] 0 0 → p.tables.exec = Jvm.exec → c.code = bytes → c.maxLocals = maxL → meth.sig.returnType = ret → meth.locks = false → s.vm.findClass y.cls = some m.cls → meth.name = y.name → Z.Warmed39 s.vm → T0.heap = h0 →
      own_Go p e below (T0.setTop (entryFrame m as' maxL)) (own_End s Q rm.cells rm.slots)) : own_Met l Z h0 y bytes maxL ret ws rm as' Q := by
  refine MetFree.of_bodySF hpl hisR ?_
  intro p e s m args below meth c s₁ Bd hml0 hP hK
  obtain ⟨rfl, hZ, hh⟩ := hP
  exact body p e s m below meth c s₁ (Stand.of_body Bd) Bd.exec Bd.bytes hml0 Bd.returns Bd.notSynchronized (findClass_of_methodNamed Bd.named) (name_of_methodNamed Bd.named Bd.method).1 hZ (by rw [← hh, Bd.state]; rfl)
theorem own_mono (X : Stand p l e R s m args below meth c T locs cells slots) {c' k' : Nat} (hc : cells ≤ c') (hk : slots ≤ k') : Stand p l e R s m args below meth c T locs c' k' :=
  ⟨X.admits, X.cas, X.clock, X.frames, X.room, X.hears, X.method, X.code, X.here, X.tail, X.warmed, X.limits, X.bytes, X.same.mono hc hk⟩
theorem own_leave (X : Stand p l e R s m args below meth c T locs cells slots) (hlk : meth.locks = false) {v : Option Value} {Q : Option Value → Heap → List Loc → Prop} {C K : Nat} {g : JFrame} (hv : meth.sig.returnType = none → v = none)
    (st : ∀ fs, (∀ (f : JFrame) (acts : List Action), f.method = m → f.locked = none → f.entered = [] → (doReturn e (T.setTop f) acts v).1 = T.setFrames fs) → Steps p.tables e below (T.setTop g) (T.setFrames fs))
    (eT : T.heap = h) (hQ : Q v h locs) (hc : cells ≤ C) (hk : slots ≤ K) : own_Go p e below (T.setTop g) (own_End s Q C K) := by
  obtain ⟨fs, hr, hrun, hended, hW, hsame⟩ := X.leave (v := v) hv hlk
  subst eT
  exact ⟨_, _, st fs hr, hrun, hended, v, locs, rfl, hQ, ⟨_, rfl⟩, hW, hsame.mono hc hk⟩
theorem own_retI (X : Stand p l e R s m args below meth c T locs cells slots) (hx : p.tables.exec = Jvm.exec) (hlk : meth.locks = false) {pc : Nat} {Ls : Array Slot} {z : Int32} {rest : List Value} {Q : Option Value → Heap → List Loc → Prop} {C K : Nat} (hret : meth.sig.returnType = some .int) (hd : decode c.code pc = .ok (.ireturn, 1))
    (eT : T.heap = h) (hQ : Q (some (.int z)) h locs) (hc : cells ≤ C) (hk : slots ≤ K) : own_Go p e below (T.setTop (mkF m pc Ls (.int z :: rest))) (own_End s Q C K) := by
  refine own_leave X hlk (fun q => by rw [hret] at q; cases q) (fun fs hl => ?_) eT hQ hc hk
  have hm' : T.vm.method? m = some meth := X.method'
  have hn : narrow .int (.int z) = .int z := rfl
  show Steps p.tables e below (T.setTop { method := m, pc := pc, locals := Ls, stack := _ :: rest, locked := none }) _
  jvm_step X.here [X.here.top, hx, hd, hm', hret, hn]
  first | (intro acts; rw [hl _ acts rfl rfl rfl]) | rw [hl _ _ rfl rfl rfl]
  exact Steps.refl _
theorem own_retN (X : Stand p l e R s m args below meth c T locs cells slots) (hx : p.tables.exec = Jvm.exec) (hlk : meth.locks = false) {pc : Nat} {Ls : Array Slot} {z : Int32} {t : FieldType} {rest : List Value} {Q : Option Value → Heap → List Loc → Prop} {C K : Nat} (hret : meth.sig.returnType = some t) (ht : t = .boolean ∨ t = .byte ∨ t = .char ∨ t = .short) (hd : decode c.code pc = .ok (.ireturn, 1))
    (eT : T.heap = h) (hQ : Q (some (.int (nar t z))) h locs) (hc : cells ≤ C) (hk : slots ≤ K) : own_Go p e below (T.setTop (mkF m pc Ls (.int z :: rest))) (own_End s Q C K) :=
  own_leave X hlk (fun q => by rw [hret] at q; cases q) (fun fs hl => retN X hx hret ht hd hl) eT hQ hc hk
theorem own_retV (X : Stand p l e R s m args below meth c T locs cells slots) (hx : p.tables.exec = Jvm.exec) (hlk : meth.locks = false) {pc : Nat} {Ls : Array Slot} {Q : Option Value → Heap → List Loc → Prop} {C K : Nat} (hret : meth.sig.returnType = none) (hd : decode c.code pc = .ok (.return_, 1))
    (eT : T.heap = h) (hQ : Q none h locs) (hc : cells ≤ C) (hk : slots ≤ K) : own_Go p e below (T.setTop (mkF m pc Ls [])) (own_End s Q C K) :=
  own_leave X hlk (fun _ => rfl) (fun fs hl => X.returnOut hx hret hd hl) eT hQ hc hk
theorem own_retJ (X : Stand p l e R s m args below meth c T locs cells slots) (hx : p.tables.exec = Jvm.exec) (hlk : meth.locks = false) {pc : Nat} {Ls : Array Slot} {z : Int64} {Q : Option Value → Heap → List Loc → Prop} {C K : Nat} (hret : meth.sig.returnType = some .long) (hd : decode c.code pc = .ok (.lreturn, 1))
    (eT : T.heap = h) (hQ : Q (some (.long z)) h locs) (hc : cells ≤ C) (hk : slots ≤ K) : own_Go p e below (T.setTop (mkF m pc Ls [.long z])) (own_End s Q C K) :=
  own_leave X hlk (fun q => by rw [hret] at q; cases q) (fun fs hl => X.lreturnOut hx hret hd hl) eT hQ hc hk
theorem own_retA (X : Stand p l e R s m args below meth c T locs cells slots) (hx : p.tables.exec = Jvm.exec) (hlk : meth.locks = false) {pc : Nat} {Ls : Array Slot} {v : Value} {t : FieldType} {rest : List Value} {Q : Option Value → Heap → List Loc → Prop} {C K : Nat} (hret : meth.sig.returnType = some t) (ht : t.isReference = true) (hv : v.isRef = true) (hd : decode c.code pc = .ok (.areturn, 1))
    (eT : T.heap = h) (hQ : Q (some v) h locs) (hc : cells ≤ C) (hk : slots ≤ K) : own_Go p e below (T.setTop (mkF m pc Ls (v :: rest))) (own_End s Q C K) := by
  refine own_leave X hlk (fun q => by rw [hret] at q; cases q) (fun fs hl => ?_) eT hQ hc hk
  have hm' : T.vm.method? m = some meth := X.method'
  show Steps p.tables e below (T.setTop { method := m, pc := pc, locals := Ls, stack := _ :: rest, locked := none }) _
  jvm_step X.here [X.here.top, hx, hd, hm', hret, ht, hv]
  first | (intro acts; rw [hl _ acts rfl rfl rfl]) | rw [hl _ _ rfl rfl rfl]
  exact Steps.refl _
/-! an array whose place i holds f i -/
def own_Ar (Z : State) (h : Heap) (a : Addr) (ty : FieldType) (n : Nat) (f : Nat → Value) : Prop :=
  n < 2 ^ 31 ∧ ∃ c : Cell, Arr Z h a c ty ∧ c.slots.size = n ∧ ∀ i, i < n → c.slots[i]? = some (f i) ∧ fits ty (f i) = true
def own_up (f : Nat → Value) (k : Nat) (v : Value) : Nat → Value := fun i => if i = k then v else f i
def own_I (g : Nat → Int32) : Nat → Value := fun j => .int (g j)
def own_set (g : Nat → Int32) (k : Nat) (x : Int32) : Nat → Int32 := fun j => if j = k then x else g j
theorem own_upI {g : Nat → Int32} {k : Nat} {x : Int32} : own_up (own_I g) k (.int x) = own_I (own_set g k x) := by
  funext j
  unfold own_up own_I own_set
  by_cases q : j = k
  · rw [if_pos q, if_pos q]
  · rw [if_neg q, if_neg q]
section Arrays
variable {a b : Addr} {ty : FieldType} {n k : Nat} {f : Nat → Value} {v : Value} {ws : List Addr} {sl : Nat} {j : Int32}
theorem own_Ar.lt (F : own_Ar Z h a ty n f) : a < h.size := by obtain ⟨_, c, A, _⟩ := F; exact A.lt
theorem own_Ar.ext (F : own_Ar Z h a ty n f) (E : Ext h h') : own_Ar Z h' a ty n f := by obtain ⟨q, c, A, r⟩ := F; exact ⟨q, c, A.ext E, r⟩
theorem own_Ar.other (F : own_Ar Z h b ty n f) (W : Wr h h' a sl v) (q : b ≠ a) : own_Ar Z h' b ty n f := by obtain ⟨q0, c, A, r⟩ := F; exact ⟨q0, c, A.other W q, r⟩
theorem own_Ar.keep (F : own_Ar Z h a ty n f) (K : Keep h h' ws) (q : a ∉ ws) : own_Ar Z h' a ty n f := by obtain ⟨q0, c, A, r⟩ := F; exact ⟨q0, c, ⟨K.2.1 a c A.1 q, A.2⟩, r⟩
theorem own_Ar.eqv {g : Nat → Value} (F : own_Ar Z h a ty n f) (q : ∀ i, i < n → f i = g i) : own_Ar Z h a ty n g := by
  obtain ⟨q0, c, A, r1, r2⟩ := F; exact ⟨q0, c, A, r1, fun i hi => by rw [← q i hi]; exact r2 i hi⟩
theorem own_Ar.eqvI {g g' : Nat → Int32} (F : own_Ar Z h a ty n (own_I g)) (q : ∀ i, i < n → g i = g' i) : own_Ar Z h a ty n (own_I g') := F.eqv fun i hi => by show Value.int _ = Value.int _; rw [q i hi]
theorem own_clamp (hk : k < 2 ^ 31) : (Int32.ofNat k).toNatClampNeg = k ∧ ¬ Int32.ofNat k < 0 := by
  have e : (Int32.ofNat k).toInt = (k : Int) := Int32.toInt_ofNat_of_lt hk
  refine ⟨?_, ?_⟩
  · show (Int32.ofNat k).toInt.toNat = k
    rw [e]; rfl
  · rw [Int32.lt_iff_toInt_lt, e]
    show ¬ ((k : Int) < 0)
    omega
theorem own_inb {cl : Cell} (S : cl.slots.size = n) (hn : n < 2 ^ 31) (e : j = Int32.ofNat k) (hk : k < n) : ¬ (j < 0 ∨ cl.slots.size ≤ j.toNatClampNeg) := by
  subst e
  obtain ⟨e1, e2⟩ := own_clamp (k := k) (by omega)
  rw [e1, S]
  rintro (q | q)
  · exact e2 q
  · omega
theorem own_Ar.get (F : own_Ar Z h a ty n f) (q : j = Int32.ofNat k ∧ k < n) : ∃ cl : Cell, Arr Z h a cl ty ∧ ¬ (j < 0 ∨ cl.slots.size ≤ j.toNatClampNeg) ∧ cl.slots[j.toNatClampNeg]? = some (f k) := by
  obtain ⟨hn, c, A, S, H⟩ := F
  refine ⟨c, A, own_inb S hn q.1 q.2, ?_⟩
  rw [q.1, (own_clamp (k := k) (by omega)).1]
  exact (H k q.2).1
theorem own_Ar.len (F : own_Ar Z h a ty n f) : ∃ cl : Cell, Arr Z h a cl ty ∧ cl.slots.size.toInt32 = Int32.ofNat n := by
  obtain ⟨hn, c, A, S, H⟩ := F
  refine ⟨c, A, ?_⟩
  rw [S]
theorem own_Ar.put (F : own_Ar Z h a ty n f) (q : j = Int32.ofNat k ∧ k < n) : ∃ cl : Cell, Arr Z h a cl ty ∧ ¬ (j < 0 ∨ cl.slots.size ≤ j.toNatClampNeg) ∧ ∀ {v : Value} {h' : Heap}, fits ty v = true → Wr h h' a j.toNatClampNeg v → own_Ar Z h' a ty n (own_up f k v) := by
  obtain ⟨hn, c, A, S, H⟩ := F
  refine ⟨c, A, own_inb S hn q.1 q.2, fun {v h'} hv W => ⟨hn, _, A.same W, by rw [sz_set]; exact S, fun i hi => ?_⟩⟩
  rw [q.1, (own_clamp (k := k) (by omega)).1]
  by_cases u : i = k
  · subst u
    simp [own_up, Cell.setSlot, S, hi, hv]
  · have u' : ¬ k = i := fun z => u z.symm
    simp only [own_up, u, if_false, Cell.setSlot, Array.getElem?_setIfInBounds, u']
    exact H i hi
theorem own_newP (X : Stand p l e R s m args below meth c T locs cells slots) (hx : p.tables.exec = Jvm.exec) (hZ : Z.Warmed39 s.vm) {aty : ArrayType} (w : (Cond.arrayClass (newarray.typeOf aty)).before a0 Z = true) (eT : T.heap = h) {g : JFrame} (hg : g.method = m) (hd : decode c.code g.pc = .ok (.newarray aty, 2)) {z : Int32} {rest : List Value} (hs : g.stack = .int z :: rest)
    {n cap : Nat} (hz : z = Int32.ofNat n) (hn : n ≤ cap) (hb : cap * 8 ≤ 536870912) (hc : cells + 1 ≤ R.cells) (hl : slots + cap ≤ R.slots) :
    ∃ T' h', Stand p l e R s m args below meth c T' locs (cells + 1) (slots + cap) ∧ T'.heap = h' ∧ Ext h h' ∧ own_Ar Z h' h.size (newarray.typeOf aty) n (fun _ => defaultValue (newarray.typeOf aty)) ∧
      ∀ target, Steps p.tables e below (T'.setTop { g with pc := g.pc + 2, stack := .ref h.size :: rest }) target → Steps p.tables e below (T.setTop g) target := by
  obtain ⟨e1, e2⟩ := own_clamp (k := n) (by omega)
  subst hz
  obtain ⟨T', h', cA, X', e', E, A, st⟩ := newP X hx hZ w eT hg hd hs e2 (cap := cap) (by rw [e1]; exact hn) hb hc hl
  refine ⟨T', h', X', e', E, ⟨by omega, _, A, by rw [sz_new, e1], fun i hi => ⟨?_, by cases aty <;> rfl⟩⟩, st⟩
  simp [newA, e1, hi]
end Arrays
theorem own_st1 {l : Array Slot} {i : Nat} {v : Value} {o : Slot} (hold : l[i]? = some o) (ho : o = .unset ∨ ∃ w, o = .val w ∧ w.category = 1) (hv : v.category = 1) : storeLocals l i v = some (l.setIfInBounds i (.val v)) := XS.store1 hold ho hv
/-- the cell at x stands as it stood -/
def own_Kx (h h' : Heap) (x : Addr) : Prop := h.size ≤ h'.size ∧ ∀ c : Cell, h[x]? = some c → h'[x]? = some c
section Kx
variable {x a : Addr} {h2 : Heap} {sl : Nat} {v : Value} {ws : List Addr}
theorem own_Kx.refl : own_Kx h h x := ⟨Nat.le_refl _, fun _ q => q⟩
theorem own_Kx.ext (K : own_Kx h h' x) (E : Ext h' h2) : own_Kx h h2 x := ⟨Nat.le_trans K.1 E.1, fun c q => E.2 _ _ (K.2 c q)⟩
theorem own_Kx.keep (K : own_Kx h h' x) (K' : Keep h' h2 ws) (q : x ∉ ws) : own_Kx h h2 x := ⟨Nat.le_trans K.1 K'.1, fun c r => K'.2.1 _ _ (K.2 c r) q⟩
theorem own_Kx.wr (K : own_Kx h h' x) (W : Wr h' h2 a sl v) (q : x ≠ a) : own_Kx h h2 x := K.keep (Keep.of_wr W) (ninS q nin0)
theorem own_Kx.trans (K : own_Kx h h' x) (K' : own_Kx h' h2 x) : own_Kx h h2 x := ⟨Nat.le_trans K.1 K'.1, fun c r => K'.2 _ (K.2 c r)⟩
theorem own_Ar.kx {ty : FieldType} {n : Nat} {f : Nat → Value} (F : own_Ar Z h x ty n f) (K : own_Kx h h' x) : own_Ar Z h' x ty n f := by obtain ⟨q0, c, A, r⟩ := F; exact ⟨q0, c, ⟨K.2 c A.1, A.2⟩, r⟩
def own_Lt (h : Heap) (x : Addr) : Prop := x < h.size
theorem own_Lt.lt (q : own_Lt h x) : x < h.size := q
theorem own_Lt.ext (q : own_Lt h x) (E : Ext h h') : own_Lt h' x := Nat.lt_of_lt_of_le q E.1
theorem own_Lt.keep (q : own_Lt h x) (K : Keep h h' ws) : own_Lt h' x := Nat.lt_of_lt_of_le q K.1
theorem own_Lt.wr (q : own_Lt h x) (W : Wr h h' a sl v) : own_Lt h' x := q.keep (Keep.of_wr W)
theorem own_Lt.kx {y : Addr} (q : own_Lt h x) (K : own_Kx h h' y) : own_Lt h' x := Nat.lt_of_lt_of_le q K.1
end Kx
/-! numbers: small naturals as ints -/
theorem own_toInt {a : Nat} (ha : a < 2 ^ 31) : (Int32.ofNat a).toInt = (a : Int) := Int32.toInt_ofNat_of_lt ha
theorem own_mask (x : Int32) (m : Nat) : ∃ k : Nat, k ≤ m ∧ (x &&& Int32.ofNat m) = Int32.ofNat k := by
  refine ⟨(x.toBitVec.toNat &&& (m % 2 ^ 32)), Nat.le_trans Nat.and_le_right (Nat.mod_le _ _), ?_⟩
  apply Int32.toBitVec_inj.mp
  apply BitVec.eq_of_toNat_eq
  rw [Int32.toBitVec_and, BitVec.toNat_and]
  show _ &&& (BitVec.ofNat 32 m).toNat = (BitVec.ofNat 32 _).toNat
  rw [BitVec.toNat_ofNat, BitVec.toNat_ofNat]
  rw [Nat.mod_eq_of_lt (a := _ &&& _)]
  exact Nat.lt_of_le_of_lt Nat.and_le_right (Nat.mod_lt _ (by decide))
theorem own_ltN {a b : Nat} (ha : a < 2 ^ 31) (hb : b < 2 ^ 31) : Int32.ofNat a < Int32.ofNat b ↔ a < b := by
  rw [Int32.lt_iff_toInt_lt, own_toInt ha, own_toInt hb]; omega
theorem own_eqN' {a b : Nat} (h : a = b) : Int32.ofNat a = Int32.ofNat b := by rw [h]
theorem own_eqN {a b : Nat} (ha : a < 2 ^ 31) (hb : b < 2 ^ 31) : Int32.ofNat a = Int32.ofNat b ↔ a = b := by
  constructor
  · intro h
    have h2 := congrArg Int32.toInt h
    rw [own_toInt ha, own_toInt hb] at h2; omega
  · exact own_eqN'
theorem own_addN (a b : Nat) : Int32.ofNat a + Int32.ofNat b = Int32.ofNat (a + b) := (Int32.ofNat_add a b).symm
theorem own_subN {a b : Nat} (h : b ≤ a) : Int32.ofNat a - Int32.ofNat b = Int32.ofNat (a - b) := by
  have h2 : Int32.ofNat a = Int32.ofNat (a - b) + Int32.ofNat b := by rw [own_addN]; congr 1; omega
  rw [h2, Int32.add_sub_cancel]
theorem own_nzN {a : Nat} (h0 : 0 < a) (ha : a < 2 ^ 31) : Int32.ofNat a ≠ (0 : Int32) := by
  intro h
  have h2 : Int32.ofNat a = Int32.ofNat 0 := h
  rw [own_eqN ha (by decide)] at h2; omega
theorem own_remN {a b : Nat} (ha : a < 2 ^ 31) (hb : b < 2 ^ 31) : (Int32.ofNat a - (Int32.ofNat a / Int32.ofNat b) * Int32.ofNat b) = Int32.ofNat (a % b) := by
  apply Int32.toInt_inj.mp
  have hm : a % b < 2 ^ 31 := Nat.lt_of_le_of_lt (Nat.mod_le _ _) ha
  rw [rem_toInt, own_toInt ha, own_toInt hb, own_toInt hm]
  exact (Int.ofNat_tmod a b).symm
theorem own_bm (x : Int) (h1 : -2147483648 ≤ x) (h2 : x < 2147483648) : x.bmod (2 ^ 32) = x := Int.bmod_eq_of_le (by omega) (by omega)
theorem own_bm64 (x : Int) (h1 : -9223372036854775808 ≤ x) (h2 : x < 9223372036854775808) : x.bmod (2 ^ 64) = x := Int.bmod_eq_of_le (by omega) (by omega)
end Own

def own_rf (ad0 ad1 ad2 ad3 ad4 ad5 ad6 ad7 ad8 : Addr) : Nat → Value
  | 0 => .ref ad0
  | 1 => .ref ad1
  | 2 => .ref ad2
  | 3 => .ref ad3
  | 4 => .ref ad4
  | 5 => .ref ad5
  | 6 => .ref ad6
  | 7 => .ref ad7
  | 8 => .ref ad8
  | _ => .null
def own_exp (ad0 ad1 ad2 ad3 ad4 ad5 ad6 ad7 ad8 : Addr) (c : Int32) : Value :=
  if (1 : Int32) = c then .ref ad0 else if (2 : Int32) = c then .ref ad1 else if (3 : Int32) = c then .ref ad2 else if (4 : Int32) = c then .ref ad3 else if (6 : Int32) = c then .ref ad4 else if (7 : Int32) = c then .ref ad5 else if (8 : Int32) = c then .ref ad6 else if (9 : Int32) = c then .ref ad7 else if (10 : Int32) = c then .ref ad8 else .null
theorem own_exp_ref (ad0 ad1 ad2 ad3 ad4 ad5 ad6 ad7 ad8 : Addr) (c : Int32) : (own_exp ad0 ad1 ad2 ad3 ad4 ad5 ad6 ad7 ad8 c).isRef = true := by
  unfold own_exp
  repeat' split
  all_goals rfl

theorem own_fldv {args : Array Value} {Z : State} {t : Term} {a : Addr} {C n d : String} {k : Int32} (ht : t.eval args Z none [] Z = some (.ref a)) (h : (Cond.eq (Term.field t C n d) (Term.int k)).value args Z none Z [] = some true) : Fld Z Z.heap a C n d (.int k) := by
  obtain ⟨x, y, h1, h2, h3, -⟩ := cmp_v (Or.inl h)
  have h4 : y = .int k := by rw [Term.int_eval] at h2; exact (Option.some.inj h2).symm
  subst h4
  cases x with
  | int z =>
    have h5 : z = k := by
      simp only [Cond.value, h1, h2] at h
      simpa using h
    subst h5
    rw [fld_at ht] at h1
    exact Fld.start h1
  | _ => simp [Kin, Value.isRef] at h3
theorem own_elv {args : Array Value} {Z : State} {t u : Term} {a b : Addr} {k : Int32} (ht : t.eval args Z none [] Z = some (.ref a)) (hu : u.eval args Z none [] Z = some (.ref b)) {cl : Cell} (ha : Z.arrayAt? a = some cl) (hk : ¬ k < 0)
    (h : (Cond.eq (Term.elem t (Term.int k)) u).value args Z none Z [] = some true) : cl.slots[k.toNatClampNeg]? = some (.ref b) := by
  obtain ⟨x, y, h1, h2, -, h3⟩ := cmp_v (Or.inl h)
  rw [hu] at h2
  obtain rfl := Option.some.inj h2
  have h4 := gotT (eq_R h1 hu h3.2 rfl) h
  subst h4
  rw [elem_f ht (Term.int_eval k) ha hk] at h1
  exact h1
theorem own_lenv {args : Array Value} {Z : State} {t : Term} {a : Addr} {k : Int32} (ht : t.eval args Z none [] Z = some (.ref a)) {cl : Cell} (ha : Z.arrayAt? a = some cl)
    (h : (Cond.eq (Term.length t) (Term.int k)).value args Z none Z [] = some true) : cl.slots.size < 2 ^ 31 ∧ cl.slots.size.toInt32 = k := by
  obtain ⟨x, y, h1, h2, h3, -⟩ := cmp_v (Or.inl h)
  have h4 : y = .int k := by rw [Term.int_eval] at h2; exact (Option.some.inj h2).symm
  subst h4
  have hl : cl.slots.size < 2 ^ 31 := by
    by_cases q : cl.slots.size < 2 ^ 31
    · exact q
    · have h5 : (Term.length t).eval args Z none [] Z = none := by
        simp only [Term.eval, ht, Option.bind_eq_bind, Option.bind_some]
        rw [ha]
        simp only [Option.bind_some]
        rw [if_neg q]
      rw [h5] at h1; cases h1
  rw [len_f ht ha hl] at h1
  refine ⟨hl, ?_⟩
  obtain rfl := Option.some.inj h1
  simp only [Cond.value, len_f ht ha hl, h2] at h
  simpa using h
theorem d2_0 : decode method_2_code 0 = .ok (.iload_n 0, 1) := by decide +kernel
theorem d2_1 : decode method_2_code 1 = .ok (.iconst 1, 1) := by decide +kernel
theorem d2_2 : decode method_2_code 2 = .ok (.if_icmp .ne 7, 3) := by decide +kernel
theorem d2_5 : decode method_2_code 5 = .ok (.getstatic 7, 3) := by decide +kernel
theorem d2_8 : decode method_2_code 8 = .ok (.areturn, 1) := by decide +kernel
theorem d2_9 : decode method_2_code 9 = .ok (.iload_n 0, 1) := by decide +kernel
theorem d2_10 : decode method_2_code 10 = .ok (.iconst 2, 1) := by decide +kernel
theorem d2_11 : decode method_2_code 11 = .ok (.if_icmp .ne 7, 3) := by decide +kernel
theorem d2_14 : decode method_2_code 14 = .ok (.getstatic 13, 3) := by decide +kernel
theorem d2_17 : decode method_2_code 17 = .ok (.areturn, 1) := by decide +kernel
theorem d2_18 : decode method_2_code 18 = .ok (.iload_n 0, 1) := by decide +kernel
theorem d2_19 : decode method_2_code 19 = .ok (.iconst 3, 1) := by decide +kernel
theorem d2_20 : decode method_2_code 20 = .ok (.if_icmp .ne 7, 3) := by decide +kernel
theorem d2_23 : decode method_2_code 23 = .ok (.getstatic 16, 3) := by decide +kernel
theorem d2_26 : decode method_2_code 26 = .ok (.areturn, 1) := by decide +kernel
theorem d2_27 : decode method_2_code 27 = .ok (.iload_n 0, 1) := by decide +kernel
theorem d2_28 : decode method_2_code 28 = .ok (.iconst 4, 1) := by decide +kernel
theorem d2_29 : decode method_2_code 29 = .ok (.if_icmp .ne 7, 3) := by decide +kernel
theorem d2_32 : decode method_2_code 32 = .ok (.getstatic 19, 3) := by decide +kernel
theorem d2_35 : decode method_2_code 35 = .ok (.areturn, 1) := by decide +kernel
theorem d2_36 : decode method_2_code 36 = .ok (.iload_n 0, 1) := by decide +kernel
theorem d2_37 : decode method_2_code 37 = .ok (.bipush 6, 2) := by decide +kernel
theorem d2_39 : decode method_2_code 39 = .ok (.if_icmp .ne 7, 3) := by decide +kernel
theorem d2_42 : decode method_2_code 42 = .ok (.getstatic 22, 3) := by decide +kernel
theorem d2_45 : decode method_2_code 45 = .ok (.areturn, 1) := by decide +kernel
theorem d2_46 : decode method_2_code 46 = .ok (.iload_n 0, 1) := by decide +kernel
theorem d2_47 : decode method_2_code 47 = .ok (.bipush 7, 2) := by decide +kernel
theorem d2_49 : decode method_2_code 49 = .ok (.if_icmp .ne 7, 3) := by decide +kernel
theorem d2_52 : decode method_2_code 52 = .ok (.getstatic 25, 3) := by decide +kernel
theorem d2_55 : decode method_2_code 55 = .ok (.areturn, 1) := by decide +kernel
theorem d2_56 : decode method_2_code 56 = .ok (.iload_n 0, 1) := by decide +kernel
theorem d2_57 : decode method_2_code 57 = .ok (.bipush 8, 2) := by decide +kernel
theorem d2_59 : decode method_2_code 59 = .ok (.if_icmp .ne 7, 3) := by decide +kernel
theorem d2_62 : decode method_2_code 62 = .ok (.getstatic 28, 3) := by decide +kernel
theorem d2_65 : decode method_2_code 65 = .ok (.areturn, 1) := by decide +kernel
theorem d2_66 : decode method_2_code 66 = .ok (.iload_n 0, 1) := by decide +kernel
theorem d2_67 : decode method_2_code 67 = .ok (.bipush 9, 2) := by decide +kernel
theorem d2_69 : decode method_2_code 69 = .ok (.if_icmp .ne 7, 3) := by decide +kernel
theorem d2_72 : decode method_2_code 72 = .ok (.getstatic 31, 3) := by decide +kernel
theorem d2_75 : decode method_2_code 75 = .ok (.areturn, 1) := by decide +kernel
theorem d2_76 : decode method_2_code 76 = .ok (.iload_n 0, 1) := by decide +kernel
theorem d2_77 : decode method_2_code 77 = .ok (.bipush 10, 2) := by decide +kernel
theorem d2_79 : decode method_2_code 79 = .ok (.if_icmp .ne 7, 3) := by decide +kernel
theorem d2_82 : decode method_2_code 82 = .ok (.getstatic 34, 3) := by decide +kernel
theorem d2_85 : decode method_2_code 85 = .ok (.areturn, 1) := by decide +kernel
theorem d2_86 : decode method_2_code 86 = .ok (.aconst_null, 1) := by decide +kernel
theorem d2_87 : decode method_2_code 87 = .ok (.areturn, 1) := by decide +kernel
theorem pn_2 : plainName "com/example/multiplex_framing/multiplexframing/wire/ControlFrameTypeForCodePinLaw" = true := by first | (simp [plainName, overriddenIn]; done) | decide +kernel
def Q_rm2 (Z : State) (i : Int32) (ad0 : Addr) (ad1 : Addr) (ad2 : Addr) (ad3 : Addr) (ad4 : Addr) (ad5 : Addr) (ad6 : Addr) (ad7 : Addr) (ad8 : Addr) (h0 : Heap) (n0 : Nat) (v : Option Value) (h : Heap) (L : List Loc) : Prop := v = some (own_exp ad0 ad1 ad2 ad3 ad4 ad5 ad6 ad7 ad8 i) ∧ Fr n0 L ∧ h = h0
set_option maxRecDepth 65536 in
set_option maxHeartbeats 40000000 in
theorem rm2 (l : Launch) (Z : State) (a0 : Array Value) (hw : ∀ d ∈ tables_1, d.before a0 Z = true) (ws : List Jvm.Cond) (i : Int32) (ad0 : Addr) (ad1 : Addr) (ad2 : Addr) (ad3 : Addr) (ad4 : Addr) (ad5 : Addr) (ad6 : Addr) (ad7 : Addr) (ad8 : Addr) (h0 : Heap) (n0 : Nat) (Z0 : n0 ≤ h0.size) (pr0 : Sta Z h0 "com/example/multiplex_framing/multiplexframing/wire/ControlFrameType" "SYN_STREAM" "Lcom/example/multiplex_framing/multiplexframing/wire/ControlFrameType;" (.ref ad0)) (pr1 : Sta Z h0 "com/example/multiplex_framing/multiplexframing/wire/ControlFrameType" "SYN_REPLY" "Lcom/example/multiplex_framing/multiplexframing/wire/ControlFrameType;" (.ref ad1)) (pr2 : Sta Z h0 "com/example/multiplex_framing/multiplexframing/wire/ControlFrameType" "RST_STREAM" "Lcom/example/multiplex_framing/multiplexframing/wire/ControlFrameType;" (.ref ad2)) (pr3 : Sta Z h0 "com/example/multiplex_framing/multiplexframing/wire/ControlFrameType" "SETTINGS" "Lcom/example/multiplex_framing/multiplexframing/wire/ControlFrameType;" (.ref ad3)) (pr4 : Sta Z h0 "com/example/multiplex_framing/multiplexframing/wire/ControlFrameType" "PING" "Lcom/example/multiplex_framing/multiplexframing/wire/ControlFrameType;" (.ref ad4)) (pr5 : Sta Z h0 "com/example/multiplex_framing/multiplexframing/wire/ControlFrameType" "GOAWAY" "Lcom/example/multiplex_framing/multiplexframing/wire/ControlFrameType;" (.ref ad5)) (pr6 : Sta Z h0 "com/example/multiplex_framing/multiplexframing/wire/ControlFrameType" "HEADERS" "Lcom/example/multiplex_framing/multiplexframing/wire/ControlFrameType;" (.ref ad6)) (pr7 : Sta Z h0 "com/example/multiplex_framing/multiplexframing/wire/ControlFrameType" "WINDOW_UPDATE" "Lcom/example/multiplex_framing/multiplexframing/wire/ControlFrameType;" (.ref ad7)) (pr8 : Sta Z h0 "com/example/multiplex_framing/multiplexframing/wire/ControlFrameType" "CREDENTIAL" "Lcom/example/multiplex_framing/multiplexframing/wire/ControlFrameType;" (.ref ad8)) :
    own_Met l Z h0 (⟨"com/example/multiplex_framing/multiplexframing/wire/ControlFrameTypeForCodePinLaw", "expected", "(I)Lcom/example/multiplex_framing/multiplexframing/wire/ControlFrameType;"⟩ : MethodName) method_2_code 1 (some (.object "com/example/multiplex_framing/multiplexframing/wire/ControlFrameType")) ws ({ frames := 0, cells := 0, slots := 0, locals := 0 } : Room) #[(.int i)] (Q_rm2 Z i ad0 ad1 ad2 ad3 ad4 ad5 ad6 ad7 ad8 h0 n0) := by
  refine own_enter (plainFor_of_name pn_2) ?_
  intro p e s m below meth c T0 X0 hx hby hml hret hlk hown hnm hZ e0
  have N0 := Fr.nil n0
  rw [show entryFrame m #[(.int i)] 1 = (mkF m 0 #[.val (.int i)] []) from by first | rfl | simp [entryFrame, mkF, argsToLocals, Value.category]]
  refine own_Go.of (S' := (T0.setTop (mkF m 2 #[.val (.int i)] [(.int (1 : Int32)), (.int i)]))) (fun t kt => ?_) ?_
  · show Steps p.tables e below (T0.setTop (mkF m 0 #[.val (.int i)] [])) _
    refine XS.iloadN X0.here hx rfl (own_hb hby d2_0) rfl ?_
    show Steps p.tables e below (T0.setTop (mkF m 1 #[.val (.int i)] [(.int i)])) _
    refine XS.iconst X0.here hx rfl (own_hb hby d2_1) ?_
    exact kt
  by_cases hc2_1 : i = (1 : Int32)
  · skip
    refine own_Go.of (S' := (T0.setTop (mkF m 5 #[.val (.int i)] []))) (fun t kt => ?_) ?_
    · show Steps p.tables e below (T0.setTop (mkF m 2 #[.val (.int i)] [(.int (1 : Int32)), (.int i)])) _
      refine XS.icmpNo X0.here hx rfl (own_hb hby d2_2) rfl (teq hc2_1).2 ?_
      exact kt
    obtain ⟨T2, X2, e2, st2⟩ := getS2 X0 hx hZ hown (host := "") (Or.inl (hw _ (List.mem_of_getElem? (i := 25) rfl))) Via.refl e0 pr0 (g := (mkF m 5 #[.val (.int i)] [])) rfl (own_hb hby d2_5)
    refine own_Go.of (S' := (T2.setTop (mkF m 8 #[.val (.int i)] [(.ref ad0)]))) st2 ?_
    exact own_retA X2 hx hlk hret rfl rfl (own_hb hby d2_8) e2 ⟨by unfold own_exp; rw [if_pos hc2_1.symm], N0, rfl⟩ (by decide) (by decide)
  · skip
    refine own_Go.of (S' := (T0.setTop (mkF m 11 #[.val (.int i)] [(.int (2 : Int32)), (.int i)]))) (fun t kt => ?_) ?_
    · show Steps p.tables e below (T0.setTop (mkF m 2 #[.val (.int i)] [(.int (1 : Int32)), (.int i)])) _
      refine XS.icmpYes X0.here hx rfl (pc0 := 2) (pc' := 9) rfl (own_hb hby d2_2) rfl (feq hc2_1).2 (by decide) (by decide) ?_
      show Steps p.tables e below (T0.setTop (mkF m 9 #[.val (.int i)] [])) _
      refine XS.iloadN X0.here hx rfl (own_hb hby d2_9) rfl ?_
      show Steps p.tables e below (T0.setTop (mkF m 10 #[.val (.int i)] [(.int i)])) _
      refine XS.iconst X0.here hx rfl (own_hb hby d2_10) ?_
      exact kt
    by_cases hc11_3 : i = (2 : Int32)
    · skip
      refine own_Go.of (S' := (T0.setTop (mkF m 14 #[.val (.int i)] []))) (fun t kt => ?_) ?_
      · show Steps p.tables e below (T0.setTop (mkF m 11 #[.val (.int i)] [(.int (2 : Int32)), (.int i)])) _
        refine XS.icmpNo X0.here hx rfl (own_hb hby d2_11) rfl (teq hc11_3).2 ?_
        exact kt
      obtain ⟨T4, X4, e4, st4⟩ := getS2 X0 hx hZ hown (host := "") (Or.inl (hw _ (List.mem_of_getElem? (i := 26) rfl))) Via.refl e0 pr1 (g := (mkF m 14 #[.val (.int i)] [])) rfl (own_hb hby d2_14)
      refine own_Go.of (S' := (T4.setTop (mkF m 17 #[.val (.int i)] [(.ref ad1)]))) st4 ?_
      exact own_retA X4 hx hlk hret rfl rfl (own_hb hby d2_17) e4 ⟨by unfold own_exp; rw [if_neg (fun q => hc2_1 q.symm), if_pos hc11_3.symm], N0, rfl⟩ (by decide) (by decide)
    · skip
      refine own_Go.of (S' := (T0.setTop (mkF m 20 #[.val (.int i)] [(.int (3 : Int32)), (.int i)]))) (fun t kt => ?_) ?_
      · show Steps p.tables e below (T0.setTop (mkF m 11 #[.val (.int i)] [(.int (2 : Int32)), (.int i)])) _
        refine XS.icmpYes X0.here hx rfl (pc0 := 11) (pc' := 18) rfl (own_hb hby d2_11) rfl (feq hc11_3).2 (by decide) (by decide) ?_
        show Steps p.tables e below (T0.setTop (mkF m 18 #[.val (.int i)] [])) _
        refine XS.iloadN X0.here hx rfl (own_hb hby d2_18) rfl ?_
        show Steps p.tables e below (T0.setTop (mkF m 19 #[.val (.int i)] [(.int i)])) _
        refine XS.iconst X0.here hx rfl (own_hb hby d2_19) ?_
        exact kt
      by_cases hc20_5 : i = (3 : Int32)
      · skip
        refine own_Go.of (S' := (T0.setTop (mkF m 23 #[.val (.int i)] []))) (fun t kt => ?_) ?_
        · show Steps p.tables e below (T0.setTop (mkF m 20 #[.val (.int i)] [(.int (3 : Int32)), (.int i)])) _
          refine XS.icmpNo X0.here hx rfl (own_hb hby d2_20) rfl (teq hc20_5).2 ?_
          exact kt
        obtain ⟨T6, X6, e6, st6⟩ := getS2 X0 hx hZ hown (host := "") (Or.inl (hw _ (List.mem_of_getElem? (i := 24) rfl))) Via.refl e0 pr2 (g := (mkF m 23 #[.val (.int i)] [])) rfl (own_hb hby d2_23)
        refine own_Go.of (S' := (T6.setTop (mkF m 26 #[.val (.int i)] [(.ref ad2)]))) st6 ?_
        exact own_retA X6 hx hlk hret rfl rfl (own_hb hby d2_26) e6 ⟨by unfold own_exp; rw [if_neg (fun q => hc2_1 q.symm), if_neg (fun q => hc11_3 q.symm), if_pos hc20_5.symm], N0, rfl⟩ (by decide) (by decide)
      · skip
        refine own_Go.of (S' := (T0.setTop (mkF m 29 #[.val (.int i)] [(.int (4 : Int32)), (.int i)]))) (fun t kt => ?_) ?_
        · show Steps p.tables e below (T0.setTop (mkF m 20 #[.val (.int i)] [(.int (3 : Int32)), (.int i)])) _
          refine XS.icmpYes X0.here hx rfl (pc0 := 20) (pc' := 27) rfl (own_hb hby d2_20) rfl (feq hc20_5).2 (by decide) (by decide) ?_
          show Steps p.tables e below (T0.setTop (mkF m 27 #[.val (.int i)] [])) _
          refine XS.iloadN X0.here hx rfl (own_hb hby d2_27) rfl ?_
          show Steps p.tables e below (T0.setTop (mkF m 28 #[.val (.int i)] [(.int i)])) _
          refine XS.iconst X0.here hx rfl (own_hb hby d2_28) ?_
          exact kt
        by_cases hc29_7 : i = (4 : Int32)
        · skip
          refine own_Go.of (S' := (T0.setTop (mkF m 32 #[.val (.int i)] []))) (fun t kt => ?_) ?_
          · show Steps p.tables e below (T0.setTop (mkF m 29 #[.val (.int i)] [(.int (4 : Int32)), (.int i)])) _
            refine XS.icmpNo X0.here hx rfl (own_hb hby d2_29) rfl (teq hc29_7).2 ?_
            exact kt
          obtain ⟨T8, X8, e8, st8⟩ := getS2 X0 hx hZ hown (host := "") (Or.inl (hw _ (List.mem_of_getElem? (i := 29) rfl))) Via.refl e0 pr3 (g := (mkF m 32 #[.val (.int i)] [])) rfl (own_hb hby d2_32)
          refine own_Go.of (S' := (T8.setTop (mkF m 35 #[.val (.int i)] [(.ref ad3)]))) st8 ?_
          exact own_retA X8 hx hlk hret rfl rfl (own_hb hby d2_35) e8 ⟨by unfold own_exp; rw [if_neg (fun q => hc2_1 q.symm), if_neg (fun q => hc11_3 q.symm), if_neg (fun q => hc20_5 q.symm), if_pos hc29_7.symm], N0, rfl⟩ (by decide) (by decide)
        · skip
          refine own_Go.of (S' := (T0.setTop (mkF m 39 #[.val (.int i)] [(.int (6 : Int32)), (.int i)]))) (fun t kt => ?_) ?_
          · show Steps p.tables e below (T0.setTop (mkF m 29 #[.val (.int i)] [(.int (4 : Int32)), (.int i)])) _
            refine XS.icmpYes X0.here hx rfl (pc0 := 29) (pc' := 36) rfl (own_hb hby d2_29) rfl (feq hc29_7).2 (by decide) (by decide) ?_
            show Steps p.tables e below (T0.setTop (mkF m 36 #[.val (.int i)] [])) _
            refine XS.iloadN X0.here hx rfl (own_hb hby d2_36) rfl ?_
            show Steps p.tables e below (T0.setTop (mkF m 37 #[.val (.int i)] [(.int i)])) _
            refine XS.bipush X0.here hx rfl (own_hb hby d2_37) ?_
            exact kt
          by_cases hc39_9 : i = (6 : Int32)
          · skip
            refine own_Go.of (S' := (T0.setTop (mkF m 42 #[.val (.int i)] []))) (fun t kt => ?_) ?_
            · show Steps p.tables e below (T0.setTop (mkF m 39 #[.val (.int i)] [(.int (6 : Int32)), (.int i)])) _
              refine XS.icmpNo X0.here hx rfl (own_hb hby d2_39) rfl (teq hc39_9).2 ?_
              exact kt
            obtain ⟨T10, X10, e10, st10⟩ := getS2 X0 hx hZ hown (host := "") (Or.inl (hw _ (List.mem_of_getElem? (i := 22) rfl))) Via.refl e0 pr4 (g := (mkF m 42 #[.val (.int i)] [])) rfl (own_hb hby d2_42)
            refine own_Go.of (S' := (T10.setTop (mkF m 45 #[.val (.int i)] [(.ref ad4)]))) st10 ?_
            exact own_retA X10 hx hlk hret rfl rfl (own_hb hby d2_45) e10 ⟨by unfold own_exp; rw [if_neg (fun q => hc2_1 q.symm), if_neg (fun q => hc11_3 q.symm), if_neg (fun q => hc20_5 q.symm), if_neg (fun q => hc29_7 q.symm), if_pos hc39_9.symm], N0, rfl⟩ (by decide) (by decide)
          · skip
            refine own_Go.of (S' := (T0.setTop (mkF m 49 #[.val (.int i)] [(.int (7 : Int32)), (.int i)]))) (fun t kt => ?_) ?_
            · show Steps p.tables e below (T0.setTop (mkF m 39 #[.val (.int i)] [(.int (6 : Int32)), (.int i)])) _
              refine XS.icmpYes X0.here hx rfl (pc0 := 39) (pc' := 46) rfl (own_hb hby d2_39) rfl (feq hc39_9).2 (by decide) (by decide) ?_
              show Steps p.tables e below (T0.setTop (mkF m 46 #[.val (.int i)] [])) _
              refine XS.iloadN X0.here hx rfl (own_hb hby d2_46) rfl ?_
              show Steps p.tables e below (T0.setTop (mkF m 47 #[.val (.int i)] [(.int i)])) _
              refine XS.bipush X0.here hx rfl (own_hb hby d2_47) ?_
              exact kt
            by_cases hc49_11 : i = (7 : Int32)
            · skip
              refine own_Go.of (S' := (T0.setTop (mkF m 52 #[.val (.int i)] []))) (fun t kt => ?_) ?_
              · show Steps p.tables e below (T0.setTop (mkF m 49 #[.val (.int i)] [(.int (7 : Int32)), (.int i)])) _
                refine XS.icmpNo X0.here hx rfl (own_hb hby d2_49) rfl (teq hc49_11).2 ?_
                exact kt
              obtain ⟨T12, X12, e12, st12⟩ := getS2 X0 hx hZ hown (host := "") (Or.inl (hw _ (List.mem_of_getElem? (i := 23) rfl))) Via.refl e0 pr5 (g := (mkF m 52 #[.val (.int i)] [])) rfl (own_hb hby d2_52)
              refine own_Go.of (S' := (T12.setTop (mkF m 55 #[.val (.int i)] [(.ref ad5)]))) st12 ?_
              exact own_retA X12 hx hlk hret rfl rfl (own_hb hby d2_55) e12 ⟨by unfold own_exp; rw [if_neg (fun q => hc2_1 q.symm), if_neg (fun q => hc11_3 q.symm), if_neg (fun q => hc20_5 q.symm), if_neg (fun q => hc29_7 q.symm), if_neg (fun q => hc39_9 q.symm), if_pos hc49_11.symm], N0, rfl⟩ (by decide) (by decide)
            · skip
              refine own_Go.of (S' := (T0.setTop (mkF m 59 #[.val (.int i)] [(.int (8 : Int32)), (.int i)]))) (fun t kt => ?_) ?_
              · show Steps p.tables e below (T0.setTop (mkF m 49 #[.val (.int i)] [(.int (7 : Int32)), (.int i)])) _
                refine XS.icmpYes X0.here hx rfl (pc0 := 49) (pc' := 56) rfl (own_hb hby d2_49) rfl (feq hc49_11).2 (by decide) (by decide) ?_
                show Steps p.tables e below (T0.setTop (mkF m 56 #[.val (.int i)] [])) _
                refine XS.iloadN X0.here hx rfl (own_hb hby d2_56) rfl ?_
                show Steps p.tables e below (T0.setTop (mkF m 57 #[.val (.int i)] [(.int i)])) _
                refine XS.bipush X0.here hx rfl (own_hb hby d2_57) ?_
                exact kt
              by_cases hc59_13 : i = (8 : Int32)
              · skip
                refine own_Go.of (S' := (T0.setTop (mkF m 62 #[.val (.int i)] []))) (fun t kt => ?_) ?_
                · show Steps p.tables e below (T0.setTop (mkF m 59 #[.val (.int i)] [(.int (8 : Int32)), (.int i)])) _
                  refine XS.icmpNo X0.here hx rfl (own_hb hby d2_59) rfl (teq hc59_13).2 ?_
                  exact kt
                obtain ⟨T14, X14, e14, st14⟩ := getS2 X0 hx hZ hown (host := "") (Or.inl (hw _ (List.mem_of_getElem? (i := 21) rfl))) Via.refl e0 pr6 (g := (mkF m 62 #[.val (.int i)] [])) rfl (own_hb hby d2_62)
                refine own_Go.of (S' := (T14.setTop (mkF m 65 #[.val (.int i)] [(.ref ad6)]))) st14 ?_
                exact own_retA X14 hx hlk hret rfl rfl (own_hb hby d2_65) e14 ⟨by unfold own_exp; rw [if_neg (fun q => hc2_1 q.symm), if_neg (fun q => hc11_3 q.symm), if_neg (fun q => hc20_5 q.symm), if_neg (fun q => hc29_7 q.symm), if_neg (fun q => hc39_9 q.symm), if_neg (fun q => hc49_11 q.symm), if_pos hc59_13.symm], N0, rfl⟩ (by decide) (by decide)
              · skip
                refine own_Go.of (S' := (T0.setTop (mkF m 69 #[.val (.int i)] [(.int (9 : Int32)), (.int i)]))) (fun t kt => ?_) ?_
                · show Steps p.tables e below (T0.setTop (mkF m 59 #[.val (.int i)] [(.int (8 : Int32)), (.int i)])) _
                  refine XS.icmpYes X0.here hx rfl (pc0 := 59) (pc' := 66) rfl (own_hb hby d2_59) rfl (feq hc59_13).2 (by decide) (by decide) ?_
                  show Steps p.tables e below (T0.setTop (mkF m 66 #[.val (.int i)] [])) _
                  refine XS.iloadN X0.here hx rfl (own_hb hby d2_66) rfl ?_
                  show Steps p.tables e below (T0.setTop (mkF m 67 #[.val (.int i)] [(.int i)])) _
                  refine XS.bipush X0.here hx rfl (own_hb hby d2_67) ?_
                  exact kt
                by_cases hc69_15 : i = (9 : Int32)
                · skip
                  refine own_Go.of (S' := (T0.setTop (mkF m 72 #[.val (.int i)] []))) (fun t kt => ?_) ?_
                  · show Steps p.tables e below (T0.setTop (mkF m 69 #[.val (.int i)] [(.int (9 : Int32)), (.int i)])) _
                    refine XS.icmpNo X0.here hx rfl (own_hb hby d2_69) rfl (teq hc69_15).2 ?_
                    exact kt
                  obtain ⟨T16, X16, e16, st16⟩ := getS2 X0 hx hZ hown (host := "") (Or.inl (hw _ (List.mem_of_getElem? (i := 28) rfl))) Via.refl e0 pr7 (g := (mkF m 72 #[.val (.int i)] [])) rfl (own_hb hby d2_72)
                  refine own_Go.of (S' := (T16.setTop (mkF m 75 #[.val (.int i)] [(.ref ad7)]))) st16 ?_
                  exact own_retA X16 hx hlk hret rfl rfl (own_hb hby d2_75) e16 ⟨by unfold own_exp; rw [if_neg (fun q => hc2_1 q.symm), if_neg (fun q => hc11_3 q.symm), if_neg (fun q => hc20_5 q.symm), if_neg (fun q => hc29_7 q.symm), if_neg (fun q => hc39_9 q.symm), if_neg (fun q => hc49_11 q.symm), if_neg (fun q => hc59_13 q.symm), if_pos hc69_15.symm], N0, rfl⟩ (by decide) (by decide)
                · skip
                  refine own_Go.of (S' := (T0.setTop (mkF m 79 #[.val (.int i)] [(.int (10 : Int32)), (.int i)]))) (fun t kt => ?_) ?_
                  · show Steps p.tables e below (T0.setTop (mkF m 69 #[.val (.int i)] [(.int (9 : Int32)), (.int i)])) _
                    refine XS.icmpYes X0.here hx rfl (pc0 := 69) (pc' := 76) rfl (own_hb hby d2_69) rfl (feq hc69_15).2 (by decide) (by decide) ?_
                    show Steps p.tables e below (T0.setTop (mkF m 76 #[.val (.int i)] [])) _
                    refine XS.iloadN X0.here hx rfl (own_hb hby d2_76) rfl ?_
                    show Steps p.tables e below (T0.setTop (mkF m 77 #[.val (.int i)] [(.int i)])) _
                    refine XS.bipush X0.here hx rfl (own_hb hby d2_77) ?_
                    exact kt
                  by_cases hc79_17 : i = (10 : Int32)
                  · skip
                    refine own_Go.of (S' := (T0.setTop (mkF m 82 #[.val (.int i)] []))) (fun t kt => ?_) ?_
                    · show Steps p.tables e below (T0.setTop (mkF m 79 #[.val (.int i)] [(.int (10 : Int32)), (.int i)])) _
                      refine XS.icmpNo X0.here hx rfl (own_hb hby d2_79) rfl (teq hc79_17).2 ?_
                      exact kt
                    obtain ⟨T18, X18, e18, st18⟩ := getS2 X0 hx hZ hown (host := "") (Or.inl (hw _ (List.mem_of_getElem? (i := 27) rfl))) Via.refl e0 pr8 (g := (mkF m 82 #[.val (.int i)] [])) rfl (own_hb hby d2_82)
                    refine own_Go.of (S' := (T18.setTop (mkF m 85 #[.val (.int i)] [(.ref ad8)]))) st18 ?_
                    exact own_retA X18 hx hlk hret rfl rfl (own_hb hby d2_85) e18 ⟨by unfold own_exp; rw [if_neg (fun q => hc2_1 q.symm), if_neg (fun q => hc11_3 q.symm), if_neg (fun q => hc20_5 q.symm), if_neg (fun q => hc29_7 q.symm), if_neg (fun q => hc39_9 q.symm), if_neg (fun q => hc49_11 q.symm), if_neg (fun q => hc59_13 q.symm), if_neg (fun q => hc69_15 q.symm), if_pos hc79_17.symm], N0, rfl⟩ (by decide) (by decide)
                  · skip
                    refine own_Go.of (S' := (T0.setTop (mkF m 87 #[.val (.int i)] [.null]))) (fun t kt => ?_) ?_
                    · show Steps p.tables e below (T0.setTop (mkF m 79 #[.val (.int i)] [(.int (10 : Int32)), (.int i)])) _
                      refine XS.icmpYes X0.here hx rfl (pc0 := 79) (pc' := 86) rfl (own_hb hby d2_79) rfl (feq hc79_17).2 (by decide) (by decide) ?_
                      show Steps p.tables e below (T0.setTop (mkF m 86 #[.val (.int i)] [])) _
                      refine XS.aconstNull X0.here hx rfl (own_hb hby d2_86) ?_
                      exact kt
                    exact own_retA X0 hx hlk hret rfl rfl (own_hb hby d2_87) e0 ⟨by unfold own_exp; rw [if_neg (fun q => hc2_1 q.symm), if_neg (fun q => hc11_3 q.symm), if_neg (fun q => hc20_5 q.symm), if_neg (fun q => hc29_7 q.symm), if_neg (fun q => hc39_9 q.symm), if_neg (fun q => hc49_11 q.symm), if_neg (fun q => hc59_13 q.symm), if_neg (fun q => hc69_15 q.symm), if_neg (fun q => hc79_17 q.symm)], N0, rfl⟩ (by decide) (by decide)
theorem d1_0 : decode prog_42_method_6_code 0 = .ok (.aconst_null, 1) := by decide +kernel
theorem d1_1 : decode prog_42_method_6_code 1 = .ok (.astore_n 1, 1) := by decide +kernel
theorem d1_2 : decode prog_42_method_6_code 2 = .ok (.getstatic 57, 3) := by decide +kernel
theorem d1_5 : decode prog_42_method_6_code 5 = .ok (.astore_n 2, 1) := by decide +kernel
theorem d1_6 : decode prog_42_method_6_code 6 = .ok (.aload_n 2, 1) := by decide +kernel
theorem d1_7 : decode prog_42_method_6_code 7 = .ok (.arraylength, 1) := by decide +kernel
theorem d1_8 : decode prog_42_method_6_code 8 = .ok (.istore_n 3, 1) := by decide +kernel
theorem d1_9 : decode prog_42_method_6_code 9 = .ok (.iconst 0, 1) := by decide +kernel
theorem d1_10 : decode prog_42_method_6_code 10 = .ok (.istore 4, 2) := by decide +kernel
theorem d1_12 : decode prog_42_method_6_code 12 = .ok (.iload 4, 2) := by decide +kernel
theorem d1_14 : decode prog_42_method_6_code 14 = .ok (.iload_n 3, 1) := by decide +kernel
theorem d1_15 : decode prog_42_method_6_code 15 = .ok (.if_icmp .ge 30, 3) := by decide +kernel
theorem d1_18 : decode prog_42_method_6_code 18 = .ok (.aload_n 2, 1) := by decide +kernel
theorem d1_19 : decode prog_42_method_6_code 19 = .ok (.iload 4, 2) := by decide +kernel
theorem d1_21 : decode prog_42_method_6_code 21 = .ok (.aaload, 1) := by decide +kernel
theorem d1_22 : decode prog_42_method_6_code 22 = .ok (.astore 5, 2) := by decide +kernel
theorem d1_24 : decode prog_42_method_6_code 24 = .ok (.aload 5, 2) := by decide +kernel
theorem d1_26 : decode prog_42_method_6_code 26 = .ok (.getfield 50, 3) := by decide +kernel
theorem d1_29 : decode prog_42_method_6_code 29 = .ok (.iload_n 0, 1) := by decide +kernel
theorem d1_30 : decode prog_42_method_6_code 30 = .ok (.if_icmp .ne 9, 3) := by decide +kernel
theorem d1_33 : decode prog_42_method_6_code 33 = .ok (.aload 5, 2) := by decide +kernel
theorem d1_35 : decode prog_42_method_6_code 35 = .ok (.astore_n 1, 1) := by decide +kernel
theorem d1_36 : decode prog_42_method_6_code 36 = .ok (.goto 9, 3) := by decide +kernel
theorem d1_39 : decode prog_42_method_6_code 39 = .ok (.iinc 4 1, 3) := by decide +kernel
theorem d1_42 : decode prog_42_method_6_code 42 = .ok (.goto (-30), 3) := by decide +kernel
theorem d1_45 : decode prog_42_method_6_code 45 = .ok (.aload_n 1, 1) := by decide +kernel
theorem d1_46 : decode prog_42_method_6_code 46 = .ok (.areturn, 1) := by decide +kernel
theorem pn_1 : plainName "com/example/multiplex_framing/multiplexframing/wire/ControlFrameType" = true := by first | (simp [plainName, overriddenIn]; done) | decide +kernel
def Q_rm1 (Z : State) (i : Int32) (r : Addr) (ad0 : Addr) (ad1 : Addr) (ad2 : Addr) (ad3 : Addr) (ad4 : Addr) (ad5 : Addr) (ad6 : Addr) (ad7 : Addr) (ad8 : Addr) (h0 : Heap) (n0 : Nat) (v : Option Value) (h : Heap) (L : List Loc) : Prop := v = some (own_exp ad0 ad1 ad2 ad3 ad4 ad5 ad6 ad7 ad8 i) ∧ Fr n0 L ∧ h = h0
set_option maxRecDepth 65536 in
set_option maxHeartbeats 40000000 in
theorem rm1 (l : Launch) (Z : State) (a0 : Array Value) (hw : ∀ d ∈ tables_1, d.before a0 Z = true) (ws : List Jvm.Cond) (i : Int32) (r : Addr) (ad0 : Addr) (ad1 : Addr) (ad2 : Addr) (ad3 : Addr) (ad4 : Addr) (ad5 : Addr) (ad6 : Addr) (ad7 : Addr) (ad8 : Addr) (h0 : Heap) (n0 : Nat) (Z0 : n0 ≤ h0.size) (pr0 : Sta Z h0 "com/example/multiplex_framing/multiplexframing/wire/ControlFrameType" "ALL" "[Lcom/example/multiplex_framing/multiplexframing/wire/ControlFrameType;" (.ref r)) (pr1 : own_Ar Z h0 r (.object "com/example/multiplex_framing/multiplexframing/wire/ControlFrameType") 9 (own_rf ad0 ad1 ad2 ad3 ad4 ad5 ad6 ad7 ad8)) (pr2 : Fld Z h0 ad0 "com/example/multiplex_framing/multiplexframing/wire/ControlFrameType" "code" "I" (.int (1 : Int32))) (pr3 : Fld Z h0 ad1 "com/example/multiplex_framing/multiplexframing/wire/ControlFrameType" "code" "I" (.int (2 : Int32))) (pr4 : Fld Z h0 ad2 "com/example/multiplex_framing/multiplexframing/wire/ControlFrameType" "code" "I" (.int (3 : Int32))) (pr5 : Fld Z h0 ad3 "com/example/multiplex_framing/multiplexframing/wire/ControlFrameType" "code" "I" (.int (4 : Int32))) (pr6 : Fld Z h0 ad4 "com/example/multiplex_framing/multiplexframing/wire/ControlFrameType" "code" "I" (.int (6 : Int32))) (pr7 : Fld Z h0 ad5 "com/example/multiplex_framing/multiplexframing/wire/ControlFrameType" "code" "I" (.int (7 : Int32))) (pr8 : Fld Z h0 ad6 "com/example/multiplex_framing/multiplexframing/wire/ControlFrameType" "code" "I" (.int (8 : Int32))) (pr9 : Fld Z h0 ad7 "com/example/multiplex_framing/multiplexframing/wire/ControlFrameType" "code" "I" (.int (9 : Int32))) (pr10 : Fld Z h0 ad8 "com/example/multiplex_framing/multiplexframing/wire/ControlFrameType" "code" "I" (.int (10 : Int32))) :
    own_Met l Z h0 (⟨"com/example/multiplex_framing/multiplexframing/wire/ControlFrameType", "forCode", "(I)Lcom/example/multiplex_framing/multiplexframing/wire/ControlFrameType;"⟩ : MethodName) prog_42_method_6_code 6 (some (.object "com/example/multiplex_framing/multiplexframing/wire/ControlFrameType")) ws ({ frames := 0, cells := 0, slots := 0, locals := 0 } : Room) #[(.int i)] (Q_rm1 Z i r ad0 ad1 ad2 ad3 ad4 ad5 ad6 ad7 ad8 h0 n0) := by
  refine own_enter (plainFor_of_name pn_1) ?_
  intro p e s m below meth c T0 X0 hx hby hml hret hlk hown hnm hZ e0
  have N0 := Fr.nil n0
  rw [show entryFrame m #[(.int i)] 6 = (mkF m 0 #[.val (.int i), .unset, .unset, .unset, .unset, .unset] []) from by first | rfl | simp [entryFrame, mkF, argsToLocals, Value.category]]
  refine own_Go.of (S' := (T0.setTop (mkF m 2 #[.val (.int i), .val .null, .unset, .unset, .unset, .unset] []))) (fun t kt => ?_) ?_
  · show Steps p.tables e below (T0.setTop (mkF m 0 #[.val (.int i), .unset, .unset, .unset, .unset, .unset] [])) _
    refine XS.aconstNull X0.here hx rfl (own_hb hby d1_0) ?_
    show Steps p.tables e below (T0.setTop (mkF m 1 #[.val (.int i), .unset, .unset, .unset, .unset, .unset] [.null])) _
    refine XS.astoreN X0.here hx rfl (own_hb hby d1_1) rfl rfl (l' := #[.val (.int i), .val .null, .unset, .unset, .unset, .unset]) rfl ?_
    exact kt
  obtain ⟨T19, X19, e19, st19⟩ := getS2 X0 hx hZ hown (host := "") (Or.inl (hw _ (List.mem_of_getElem? (i := 4) rfl))) Via.refl e0 pr0 (g := (mkF m 2 #[.val (.int i), .val .null, .unset, .unset, .unset, .unset] [])) rfl (own_hb hby d1_2)
  refine own_Go.of (S' := (T19.setTop (mkF m 5 #[.val (.int i), .val .null, .unset, .unset, .unset, .unset] [(.ref r)]))) st19 ?_
  refine own_Go.of (S' := (T19.setTop (mkF m 7 #[.val (.int i), .val .null, .val (.ref r), .unset, .unset, .unset] [(.ref r)]))) (fun t kt => ?_) ?_
  · show Steps p.tables e below (T19.setTop (mkF m 5 #[.val (.int i), .val .null, .unset, .unset, .unset, .unset] [(.ref r)])) _
    refine XS.astoreN X19.here hx rfl (own_hb hby d1_5) rfl rfl (l' := #[.val (.int i), .val .null, .val (.ref r), .unset, .unset, .unset]) rfl ?_
    show Steps p.tables e below (T19.setTop (mkF m 6 #[.val (.int i), .val .null, .val (.ref r), .unset, .unset, .unset] [])) _
    refine XS.aloadN X19.here hx rfl (own_hb hby d1_6) rfl rfl ?_
    exact kt
  obtain ⟨cl20, Ar20, hln20⟩ := own_Ar.len pr1
  refine own_Go.of (S' := (T19.setTop (mkF m 21 #[.val (.int i), .val .null, .val (.ref r), .val (.int (9 : Int32)), .val (.int (0 : Int32)), .unset] [(.int (0 : Int32)), (.ref r)]))) (fun t kt => ?_) ?_
  · show Steps p.tables e below (T19.setTop (mkF m 7 #[.val (.int i), .val .null, .val (.ref r), .unset, .unset, .unset] [(.ref r)])) _
    refine X19.arraylength hx (by rw [e19]; exact Ar20.1) (State.isArrayOf_alike hZ.alike Ar20.2.1) (g := (mkF m 7 #[.val (.int i), .val .null, .val (.ref r), .unset, .unset, .unset] [(.ref r)])) rfl rfl (own_hb hby d1_7) _ ?_
    rw [hln20]
    show Steps p.tables e below (T19.setTop (mkF m 8 #[.val (.int i), .val .null, .val (.ref r), .unset, .unset, .unset] [(.int (9 : Int32))])) _
    refine XS.istoreN X19.here hx rfl (own_hb hby d1_8) rfl (l' := #[.val (.int i), .val .null, .val (.ref r), .val (.int (9 : Int32)), .unset, .unset]) rfl ?_
    show Steps p.tables e below (T19.setTop (mkF m 9 #[.val (.int i), .val .null, .val (.ref r), .val (.int (9 : Int32)), .unset, .unset] [])) _
    refine XS.iconst X19.here hx rfl (own_hb hby d1_9) ?_
    show Steps p.tables e below (T19.setTop (mkF m 10 #[.val (.int i), .val .null, .val (.ref r), .val (.int (9 : Int32)), .unset, .unset] [(.int (0 : Int32))])) _
    refine XS.istore X19.here hx rfl (own_hb hby d1_10) rfl (l' := #[.val (.int i), .val .null, .val (.ref r), .val (.int (9 : Int32)), .val (.int (0 : Int32)), .unset]) rfl ?_
    show Steps p.tables e below (T19.setTop (mkF m 12 #[.val (.int i), .val .null, .val (.ref r), .val (.int (9 : Int32)), .val (.int (0 : Int32)), .unset] [])) _
    refine XS.iload X19.here hx rfl (own_hb hby d1_12) rfl ?_
    show Steps p.tables e below (T19.setTop (mkF m 14 #[.val (.int i), .val .null, .val (.ref r), .val (.int (9 : Int32)), .val (.int (0 : Int32)), .unset] [(.int (0 : Int32))])) _
    refine XS.iloadN X19.here hx rfl (own_hb hby d1_14) rfl ?_
    show Steps p.tables e below (T19.setTop (mkF m 15 #[.val (.int i), .val .null, .val (.ref r), .val (.int (9 : Int32)), .val (.int (0 : Int32)), .unset] [(.int (9 : Int32)), (.int (0 : Int32))])) _
    refine XS.icmpNo X19.here hx rfl (own_hb hby d1_15) rfl (tlt (by decide : (0 : Int32) < (9 : Int32))).2.1 ?_
    show Steps p.tables e below (T19.setTop (mkF m 18 #[.val (.int i), .val .null, .val (.ref r), .val (.int (9 : Int32)), .val (.int (0 : Int32)), .unset] [])) _
    refine XS.aloadN X19.here hx rfl (own_hb hby d1_18) rfl rfl ?_
    show Steps p.tables e below (T19.setTop (mkF m 19 #[.val (.int i), .val .null, .val (.ref r), .val (.int (9 : Int32)), .val (.int (0 : Int32)), .unset] [(.ref r)])) _
    refine XS.iload X19.here hx rfl (own_hb hby d1_19) rfl ?_
    exact kt
  obtain ⟨cl21, Ar21, hin21, hat21⟩ := own_Ar.get (j := (0 : Int32)) (k := 0) pr1 ⟨rfl, by decide⟩
  refine own_Go.of (S' := (T19.setTop (mkF m 26 #[.val (.int i), .val .null, .val (.ref r), .val (.int (9 : Int32)), .val (.int (0 : Int32)), .val (.ref ad0)] [(.ref ad0)]))) (fun t kt => ?_) ?_
  · show Steps p.tables e below (T19.setTop (mkF m 21 #[.val (.int i), .val .null, .val (.ref r), .val (.int (9 : Int32)), .val (.int (0 : Int32)), .unset] [(.int (0 : Int32)), (.ref r)])) _
    refine X19.aaload hx (j := (0 : Int32)) (v := (.ref ad0)) (by rw [e19]; exact Ar21.1) (State.isArrayOf_alike hZ.alike Ar21.2.1) rfl Ar21.2.2 hin21 hat21 (g := (mkF m 21 #[.val (.int i), .val .null, .val (.ref r), .val (.int (9 : Int32)), .val (.int (0 : Int32)), .unset] [(.int (0 : Int32)), (.ref r)])) rfl rfl (own_hb hby d1_21) _ ?_
    show Steps p.tables e below (T19.setTop (mkF m 22 #[.val (.int i), .val .null, .val (.ref r), .val (.int (9 : Int32)), .val (.int (0 : Int32)), .unset] [(.ref ad0)])) _
    refine XS.astore X19.here hx rfl (own_hb hby d1_22) rfl rfl (l' := #[.val (.int i), .val .null, .val (.ref r), .val (.int (9 : Int32)), .val (.int (0 : Int32)), .val (.ref ad0)]) rfl ?_
    show Steps p.tables e below (T19.setTop (mkF m 24 #[.val (.int i), .val .null, .val (.ref r), .val (.int (9 : Int32)), .val (.int (0 : Int32)), .val (.ref ad0)] [])) _
    refine XS.aload X19.here hx rfl (own_hb hby d1_24) rfl rfl ?_
    exact kt
  obtain ⟨T22, X22, e22, st22⟩ := getF X19 hx hZ hown (host := "") (Or.inl (hw _ (List.mem_of_getElem? (i := 7) rfl))) Via.refl e19 pr2 (g := (mkF m 26 #[.val (.int i), .val .null, .val (.ref r), .val (.int (9 : Int32)), .val (.int (0 : Int32)), .val (.ref ad0)] [(.ref ad0)])) rfl rfl (own_hb hby d1_26)
  refine own_Go.of (S' := (T22.setTop (mkF m 29 #[.val (.int i), .val .null, .val (.ref r), .val (.int (9 : Int32)), .val (.int (0 : Int32)), .val (.ref ad0)] [(.int (1 : Int32))]))) st22 ?_
  refine own_Go.of (S' := (T22.setTop (mkF m 30 #[.val (.int i), .val .null, .val (.ref r), .val (.int (9 : Int32)), .val (.int (0 : Int32)), .val (.ref ad0)] [(.int i), (.int (1 : Int32))]))) (fun t kt => ?_) ?_
  · show Steps p.tables e below (T22.setTop (mkF m 29 #[.val (.int i), .val .null, .val (.ref r), .val (.int (9 : Int32)), .val (.int (0 : Int32)), .val (.ref ad0)] [(.int (1 : Int32))])) _
    refine XS.iloadN X22.here hx rfl (own_hb hby d1_29) rfl ?_
    exact kt
  by_cases hc30_23 : (1 : Int32) = i
  · skip
    refine own_Go.of (S' := (T22.setTop (mkF m 46 #[.val (.int i), .val (.ref ad0), .val (.ref r), .val (.int (9 : Int32)), .val (.int (0 : Int32)), .val (.ref ad0)] [(.ref ad0)]))) (fun t kt => ?_) ?_
    · show Steps p.tables e below (T22.setTop (mkF m 30 #[.val (.int i), .val .null, .val (.ref r), .val (.int (9 : Int32)), .val (.int (0 : Int32)), .val (.ref ad0)] [(.int i), (.int (1 : Int32))])) _
      refine XS.icmpNo X22.here hx rfl (own_hb hby d1_30) rfl (teq hc30_23).2 ?_
      show Steps p.tables e below (T22.setTop (mkF m 33 #[.val (.int i), .val .null, .val (.ref r), .val (.int (9 : Int32)), .val (.int (0 : Int32)), .val (.ref ad0)] [])) _
      refine XS.aload X22.here hx rfl (own_hb hby d1_33) rfl rfl ?_
      show Steps p.tables e below (T22.setTop (mkF m 35 #[.val (.int i), .val .null, .val (.ref r), .val (.int (9 : Int32)), .val (.int (0 : Int32)), .val (.ref ad0)] [(.ref ad0)])) _
      refine XS.astoreN X22.here hx rfl (own_hb hby d1_35) rfl rfl (l' := #[.val (.int i), .val (.ref ad0), .val (.ref r), .val (.int (9 : Int32)), .val (.int (0 : Int32)), .val (.ref ad0)]) rfl ?_
      show Steps p.tables e below (T22.setTop (mkF m 36 #[.val (.int i), .val (.ref ad0), .val (.ref r), .val (.int (9 : Int32)), .val (.int (0 : Int32)), .val (.ref ad0)] [])) _
      refine XS.goto X22.here hx rfl (pc0 := 36) (pc' := 45) rfl (own_hb hby d1_36) (by decide) (by decide) ?_
      show Steps p.tables e below (T22.setTop (mkF m 45 #[.val (.int i), .val (.ref ad0), .val (.ref r), .val (.int (9 : Int32)), .val (.int (0 : Int32)), .val (.ref ad0)] [])) _
      refine XS.aloadN X22.here hx rfl (own_hb hby d1_45) rfl rfl ?_
      exact kt
    exact own_retA X22 hx hlk hret rfl rfl (own_hb hby d1_46) e22 ⟨by unfold own_exp; rw [if_pos hc30_23], N0, rfl⟩ (by decide) (by decide)
  · skip
    refine own_Go.of (S' := (T22.setTop (mkF m 21 #[.val (.int i), .val .null, .val (.ref r), .val (.int (9 : Int32)), .val (.int (1 : Int32)), .val (.ref ad0)] [(.int (1 : Int32)), (.ref r)]))) (fun t kt => ?_) ?_
    · show Steps p.tables e below (T22.setTop (mkF m 30 #[.val (.int i), .val .null, .val (.ref r), .val (.int (9 : Int32)), .val (.int (0 : Int32)), .val (.ref ad0)] [(.int i), (.int (1 : Int32))])) _
      refine XS.icmpYes X22.here hx rfl (pc0 := 30) (pc' := 39) rfl (own_hb hby d1_30) rfl (feq hc30_23).2 (by decide) (by decide) ?_
      show Steps p.tables e below (T22.setTop (mkF m 39 #[.val (.int i), .val .null, .val (.ref r), .val (.int (9 : Int32)), .val (.int (0 : Int32)), .val (.ref ad0)] [])) _
      refine XS.iinc X22.here hx rfl (own_hb hby d1_39) rfl (l' := #[.val (.int i), .val .null, .val (.ref r), .val (.int (9 : Int32)), .val (.int (1 : Int32)), .val (.ref ad0)]) rfl ?_
      show Steps p.tables e below (T22.setTop (mkF m 42 #[.val (.int i), .val .null, .val (.ref r), .val (.int (9 : Int32)), .val (.int (1 : Int32)), .val (.ref ad0)] [])) _
      refine XS.goto X22.here hx rfl (pc0 := 42) (pc' := 12) rfl (own_hb hby d1_42) (by decide) (by decide) ?_
      show Steps p.tables e below (T22.setTop (mkF m 12 #[.val (.int i), .val .null, .val (.ref r), .val (.int (9 : Int32)), .val (.int (1 : Int32)), .val (.ref ad0)] [])) _
      refine XS.iload X22.here hx rfl (own_hb hby d1_12) rfl ?_
      show Steps p.tables e below (T22.setTop (mkF m 14 #[.val (.int i), .val .null, .val (.ref r), .val (.int (9 : Int32)), .val (.int (1 : Int32)), .val (.ref ad0)] [(.int (1 : Int32))])) _
      refine XS.iloadN X22.here hx rfl (own_hb hby d1_14) rfl ?_
      show Steps p.tables e below (T22.setTop (mkF m 15 #[.val (.int i), .val .null, .val (.ref r), .val (.int (9 : Int32)), .val (.int (1 : Int32)), .val (.ref ad0)] [(.int (9 : Int32)), (.int (1 : Int32))])) _
      refine XS.icmpNo X22.here hx rfl (own_hb hby d1_15) rfl (tlt (by decide : (1 : Int32) < (9 : Int32))).2.1 ?_
      show Steps p.tables e below (T22.setTop (mkF m 18 #[.val (.int i), .val .null, .val (.ref r), .val (.int (9 : Int32)), .val (.int (1 : Int32)), .val (.ref ad0)] [])) _
      refine XS.aloadN X22.here hx rfl (own_hb hby d1_18) rfl rfl ?_
      show Steps p.tables e below (T22.setTop (mkF m 19 #[.val (.int i), .val .null, .val (.ref r), .val (.int (9 : Int32)), .val (.int (1 : Int32)), .val (.ref ad0)] [(.ref r)])) _
      refine XS.iload X22.here hx rfl (own_hb hby d1_19) rfl ?_
      exact kt
    obtain ⟨cl24, Ar24, hin24, hat24⟩ := own_Ar.get (j := (1 : Int32)) (k := 1) pr1 ⟨rfl, by decide⟩
    refine own_Go.of (S' := (T22.setTop (mkF m 26 #[.val (.int i), .val .null, .val (.ref r), .val (.int (9 : Int32)), .val (.int (1 : Int32)), .val (.ref ad1)] [(.ref ad1)]))) (fun t kt => ?_) ?_
    · show Steps p.tables e below (T22.setTop (mkF m 21 #[.val (.int i), .val .null, .val (.ref r), .val (.int (9 : Int32)), .val (.int (1 : Int32)), .val (.ref ad0)] [(.int (1 : Int32)), (.ref r)])) _
      refine X22.aaload hx (j := (1 : Int32)) (v := (.ref ad1)) (by rw [e22]; exact Ar24.1) (State.isArrayOf_alike hZ.alike Ar24.2.1) rfl Ar24.2.2 hin24 hat24 (g := (mkF m 21 #[.val (.int i), .val .null, .val (.ref r), .val (.int (9 : Int32)), .val (.int (1 : Int32)), .val (.ref ad0)] [(.int (1 : Int32)), (.ref r)])) rfl rfl (own_hb hby d1_21) _ ?_
      show Steps p.tables e below (T22.setTop (mkF m 22 #[.val (.int i), .val .null, .val (.ref r), .val (.int (9 : Int32)), .val (.int (1 : Int32)), .val (.ref ad0)] [(.ref ad1)])) _
      refine XS.astore X22.here hx rfl (own_hb hby d1_22) rfl rfl (l' := #[.val (.int i), .val .null, .val (.ref r), .val (.int (9 : Int32)), .val (.int (1 : Int32)), .val (.ref ad1)]) rfl ?_
      show Steps p.tables e below (T22.setTop (mkF m 24 #[.val (.int i), .val .null, .val (.ref r), .val (.int (9 : Int32)), .val (.int (1 : Int32)), .val (.ref ad1)] [])) _
      refine XS.aload X22.here hx rfl (own_hb hby d1_24) rfl rfl ?_
      exact kt
    obtain ⟨T25, X25, e25, st25⟩ := getF X22 hx hZ hown (host := "") (Or.inl (hw _ (List.mem_of_getElem? (i := 7) rfl))) Via.refl e22 pr3 (g := (mkF m 26 #[.val (.int i), .val .null, .val (.ref r), .val (.int (9 : Int32)), .val (.int (1 : Int32)), .val (.ref ad1)] [(.ref ad1)])) rfl rfl (own_hb hby d1_26)
    refine own_Go.of (S' := (T25.setTop (mkF m 29 #[.val (.int i), .val .null, .val (.ref r), .val (.int (9 : Int32)), .val (.int (1 : Int32)), .val (.ref ad1)] [(.int (2 : Int32))]))) st25 ?_
    refine own_Go.of (S' := (T25.setTop (mkF m 30 #[.val (.int i), .val .null, .val (.ref r), .val (.int (9 : Int32)), .val (.int (1 : Int32)), .val (.ref ad1)] [(.int i), (.int (2 : Int32))]))) (fun t kt => ?_) ?_
    · show Steps p.tables e below (T25.setTop (mkF m 29 #[.val (.int i), .val .null, .val (.ref r), .val (.int (9 : Int32)), .val (.int (1 : Int32)), .val (.ref ad1)] [(.int (2 : Int32))])) _
      refine XS.iloadN X25.here hx rfl (own_hb hby d1_29) rfl ?_
      exact kt
    by_cases hc30_26 : (2 : Int32) = i
    · skip
      refine own_Go.of (S' := (T25.setTop (mkF m 46 #[.val (.int i), .val (.ref ad1), .val (.ref r), .val (.int (9 : Int32)), .val (.int (1 : Int32)), .val (.ref ad1)] [(.ref ad1)]))) (fun t kt => ?_) ?_
      · show Steps p.tables e below (T25.setTop (mkF m 30 #[.val (.int i), .val .null, .val (.ref r), .val (.int (9 : Int32)), .val (.int (1 : Int32)), .val (.ref ad1)] [(.int i), (.int (2 : Int32))])) _
        refine XS.icmpNo X25.here hx rfl (own_hb hby d1_30) rfl (teq hc30_26).2 ?_
        show Steps p.tables e below (T25.setTop (mkF m 33 #[.val (.int i), .val .null, .val (.ref r), .val (.int (9 : Int32)), .val (.int (1 : Int32)), .val (.ref ad1)] [])) _
        refine XS.aload X25.here hx rfl (own_hb hby d1_33) rfl rfl ?_
        show Steps p.tables e below (T25.setTop (mkF m 35 #[.val (.int i), .val .null, .val (.ref r), .val (.int (9 : Int32)), .val (.int (1 : Int32)), .val (.ref ad1)] [(.ref ad1)])) _
        refine XS.astoreN X25.here hx rfl (own_hb hby d1_35) rfl rfl (l' := #[.val (.int i), .val (.ref ad1), .val (.ref r), .val (.int (9 : Int32)), .val (.int (1 : Int32)), .val (.ref ad1)]) rfl ?_
        show Steps p.tables e below (T25.setTop (mkF m 36 #[.val (.int i), .val (.ref ad1), .val (.ref r), .val (.int (9 : Int32)), .val (.int (1 : Int32)), .val (.ref ad1)] [])) _
        refine XS.goto X25.here hx rfl (pc0 := 36) (pc' := 45) rfl (own_hb hby d1_36) (by decide) (by decide) ?_
        show Steps p.tables e below (T25.setTop (mkF m 45 #[.val (.int i), .val (.ref ad1), .val (.ref r), .val (.int (9 : Int32)), .val (.int (1 : Int32)), .val (.ref ad1)] [])) _
        refine XS.aloadN X25.here hx rfl (own_hb hby d1_45) rfl rfl ?_
        exact kt
      exact own_retA X25 hx hlk hret rfl rfl (own_hb hby d1_46) e25 ⟨by unfold own_exp; rw [if_neg hc30_23, if_pos hc30_26], N0, rfl⟩ (by decide) (by decide)
    · skip
      refine own_Go.of (S' := (T25.setTop (mkF m 21 #[.val (.int i), .val .null, .val (.ref r), .val (.int (9 : Int32)), .val (.int (2 : Int32)), .val (.ref ad1)] [(.int (2 : Int32)), (.ref r)]))) (fun t kt => ?_) ?_
      · show Steps p.tables e below (T25.setTop (mkF m 30 #[.val (.int i), .val .null, .val (.ref r), .val (.int (9 : Int32)), .val (.int (1 : Int32)), .val (.ref ad1)] [(.int i), (.int (2 : Int32))])) _
        refine XS.icmpYes X25.here hx rfl (pc0 := 30) (pc' := 39) rfl (own_hb hby d1_30) rfl (feq hc30_26).2 (by decide) (by decide) ?_
        show Steps p.tables e below (T25.setTop (mkF m 39 #[.val (.int i), .val .null, .val (.ref r), .val (.int (9 : Int32)), .val (.int (1 : Int32)), .val (.ref ad1)] [])) _
        refine XS.iinc X25.here hx rfl (own_hb hby d1_39) rfl (l' := #[.val (.int i), .val .null, .val (.ref r), .val (.int (9 : Int32)), .val (.int (2 : Int32)), .val (.ref ad1)]) rfl ?_
        show Steps p.tables e below (T25.setTop (mkF m 42 #[.val (.int i), .val .null, .val (.ref r), .val (.int (9 : Int32)), .val (.int (2 : Int32)), .val (.ref ad1)] [])) _
        refine XS.goto X25.here hx rfl (pc0 := 42) (pc' := 12) rfl (own_hb hby d1_42) (by decide) (by decide) ?_
        show Steps p.tables e below (T25.setTop (mkF m 12 #[.val (.int i), .val .null, .val (.ref r), .val (.int (9 : Int32)), .val (.int (2 : Int32)), .val (.ref ad1)] [])) _
        refine XS.iload X25.here hx rfl (own_hb hby d1_12) rfl ?_
        show Steps p.tables e below (T25.setTop (mkF m 14 #[.val (.int i), .val .null, .val (.ref r), .val (.int (9 : Int32)), .val (.int (2 : Int32)), .val (.ref ad1)] [(.int (2 : Int32))])) _
        refine XS.iloadN X25.here hx rfl (own_hb hby d1_14) rfl ?_
        show Steps p.tables e below (T25.setTop (mkF m 15 #[.val (.int i), .val .null, .val (.ref r), .val (.int (9 : Int32)), .val (.int (2 : Int32)), .val (.ref ad1)] [(.int (9 : Int32)), (.int (2 : Int32))])) _
        refine XS.icmpNo X25.here hx rfl (own_hb hby d1_15) rfl (tlt (by decide : (2 : Int32) < (9 : Int32))).2.1 ?_
        show Steps p.tables e below (T25.setTop (mkF m 18 #[.val (.int i), .val .null, .val (.ref r), .val (.int (9 : Int32)), .val (.int (2 : Int32)), .val (.ref ad1)] [])) _
        refine XS.aloadN X25.here hx rfl (own_hb hby d1_18) rfl rfl ?_
        show Steps p.tables e below (T25.setTop (mkF m 19 #[.val (.int i), .val .null, .val (.ref r), .val (.int (9 : Int32)), .val (.int (2 : Int32)), .val (.ref ad1)] [(.ref r)])) _
        refine XS.iload X25.here hx rfl (own_hb hby d1_19) rfl ?_
        exact kt
      obtain ⟨cl27, Ar27, hin27, hat27⟩ := own_Ar.get (j := (2 : Int32)) (k := 2) pr1 ⟨rfl, by decide⟩
      refine own_Go.of (S' := (T25.setTop (mkF m 26 #[.val (.int i), .val .null, .val (.ref r), .val (.int (9 : Int32)), .val (.int (2 : Int32)), .val (.ref ad2)] [(.ref ad2)]))) (fun t kt => ?_) ?_
      · show Steps p.tables e below (T25.setTop (mkF m 21 #[.val (.int i), .val .null, .val (.ref r), .val (.int (9 : Int32)), .val (.int (2 : Int32)), .val (.ref ad1)] [(.int (2 : Int32)), (.ref r)])) _
        refine X25.aaload hx (j := (2 : Int32)) (v := (.ref ad2)) (by rw [e25]; exact Ar27.1) (State.isArrayOf_alike hZ.alike Ar27.2.1) rfl Ar27.2.2 hin27 hat27 (g := (mkF m 21 #[.val (.int i), .val .null, .val (.ref r), .val (.int (9 : Int32)), .val (.int (2 : Int32)), .val (.ref ad1)] [(.int (2 : Int32)), (.ref r)])) rfl rfl (own_hb hby d1_21) _ ?_
        show Steps p.tables e below (T25.setTop (mkF m 22 #[.val (.int i), .val .null, .val (.ref r), .val (.int (9 : Int32)), .val (.int (2 : Int32)), .val (.ref ad1)] [(.ref ad2)])) _
        refine XS.astore X25.here hx rfl (own_hb hby d1_22) rfl rfl (l' := #[.val (.int i), .val .null, .val (.ref r), .val (.int (9 : Int32)), .val (.int (2 : Int32)), .val (.ref ad2)]) rfl ?_
        show Steps p.tables e below (T25.setTop (mkF m 24 #[.val (.int i), .val .null, .val (.ref r), .val (.int (9 : Int32)), .val (.int (2 : Int32)), .val (.ref ad2)] [])) _
        refine XS.aload X25.here hx rfl (own_hb hby d1_24) rfl rfl ?_
        exact kt
      obtain ⟨T28, X28, e28, st28⟩ := getF X25 hx hZ hown (host := "") (Or.inl (hw _ (List.mem_of_getElem? (i := 7) rfl))) Via.refl e25 pr4 (g := (mkF m 26 #[.val (.int i), .val .null, .val (.ref r), .val (.int (9 : Int32)), .val (.int (2 : Int32)), .val (.ref ad2)] [(.ref ad2)])) rfl rfl (own_hb hby d1_26)
      refine own_Go.of (S' := (T28.setTop (mkF m 29 #[.val (.int i), .val .null, .val (.ref r), .val (.int (9 : Int32)), .val (.int (2 : Int32)), .val (.ref ad2)] [(.int (3 : Int32))]))) st28 ?_
      refine own_Go.of (S' := (T28.setTop (mkF m 30 #[.val (.int i), .val .null, .val (.ref r), .val (.int (9 : Int32)), .val (.int (2 : Int32)), .val (.ref ad2)] [(.int i), (.int (3 : Int32))]))) (fun t kt => ?_) ?_
      · show Steps p.tables e below (T28.setTop (mkF m 29 #[.val (.int i), .val .null, .val (.ref r), .val (.int (9 : Int32)), .val (.int (2 : Int32)), .val (.ref ad2)] [(.int (3 : Int32))])) _
        refine XS.iloadN X28.here hx rfl (own_hb hby d1_29) rfl ?_
        exact kt
      by_cases hc30_29 : (3 : Int32) = i
      · skip
        refine own_Go.of (S' := (T28.setTop (mkF m 46 #[.val (.int i), .val (.ref ad2), .val (.ref r), .val (.int (9 : Int32)), .val (.int (2 : Int32)), .val (.ref ad2)] [(.ref ad2)]))) (fun t kt => ?_) ?_
        · show Steps p.tables e below (T28.setTop (mkF m 30 #[.val (.int i), .val .null, .val (.ref r), .val (.int (9 : Int32)), .val (.int (2 : Int32)), .val (.ref ad2)] [(.int i), (.int (3 : Int32))])) _
          refine XS.icmpNo X28.here hx rfl (own_hb hby d1_30) rfl (teq hc30_29).2 ?_
          show Steps p.tables e below (T28.setTop (mkF m 33 #[.val (.int i), .val .null, .val (.ref r), .val (.int (9 : Int32)), .val (.int (2 : Int32)), .val (.ref ad2)] [])) _
          refine XS.aload X28.here hx rfl (own_hb hby d1_33) rfl rfl ?_
          show Steps p.tables e below (T28.setTop (mkF m 35 #[.val (.int i), .val .null, .val (.ref r), .val (.int (9 : Int32)), .val (.int (2 : Int32)), .val (.ref ad2)] [(.ref ad2)])) _
          refine XS.astoreN X28.here hx rfl (own_hb hby d1_35) rfl rfl (l' := #[.val (.int i), .val (.ref ad2), .val (.ref r), .val (.int (9 : Int32)), .val (.int (2 : Int32)), .val (.ref ad2)]) rfl ?_
          show Steps p.tables e below (T28.setTop (mkF m 36 #[.val (.int i), .val (.ref ad2), .val (.ref r), .val (.int (9 : Int32)), .val (.int (2 : Int32)), .val (.ref ad2)] [])) _
          refine XS.goto X28.here hx rfl (pc0 := 36) (pc' := 45) rfl (own_hb hby d1_36) (by decide) (by decide) ?_
          show Steps p.tables e below (T28.setTop (mkF m 45 #[.val (.int i), .val (.ref ad2), .val (.ref r), .val (.int (9 : Int32)), .val (.int (2 : Int32)), .val (.ref ad2)] [])) _
          refine XS.aloadN X28.here hx rfl (own_hb hby d1_45) rfl rfl ?_
          exact kt
        exact own_retA X28 hx hlk hret rfl rfl (own_hb hby d1_46) e28 ⟨by unfold own_exp; rw [if_neg hc30_23, if_neg hc30_26, if_pos hc30_29], N0, rfl⟩ (by decide) (by decide)
      · skip
        refine own_Go.of (S' := (T28.setTop (mkF m 21 #[.val (.int i), .val .null, .val (.ref r), .val (.int (9 : Int32)), .val (.int (3 : Int32)), .val (.ref ad2)] [(.int (3 : Int32)), (.ref r)]))) (fun t kt => ?_) ?_
        · show Steps p.tables e below (T28.setTop (mkF m 30 #[.val (.int i), .val .null, .val (.ref r), .val (.int (9 : Int32)), .val (.int (2 : Int32)), .val (.ref ad2)] [(.int i), (.int (3 : Int32))])) _
          refine XS.icmpYes X28.here hx rfl (pc0 := 30) (pc' := 39) rfl (own_hb hby d1_30) rfl (feq hc30_29).2 (by decide) (by decide) ?_
          show Steps p.tables e below (T28.setTop (mkF m 39 #[.val (.int i), .val .null, .val (.ref r), .val (.int (9 : Int32)), .val (.int (2 : Int32)), .val (.ref ad2)] [])) _
          refine XS.iinc X28.here hx rfl (own_hb hby d1_39) rfl (l' := #[.val (.int i), .val .null, .val (.ref r), .val (.int (9 : Int32)), .val (.int (3 : Int32)), .val (.ref ad2)]) rfl ?_
          show Steps p.tables e below (T28.setTop (mkF m 42 #[.val (.int i), .val .null, .val (.ref r), .val (.int (9 : Int32)), .val (.int (3 : Int32)), .val (.ref ad2)] [])) _
          refine XS.goto X28.here hx rfl (pc0 := 42) (pc' := 12) rfl (own_hb hby d1_42) (by decide) (by decide) ?_
          show Steps p.tables e below (T28.setTop (mkF m 12 #[.val (.int i), .val .null, .val (.ref r), .val (.int (9 : Int32)), .val (.int (3 : Int32)), .val (.ref ad2)] [])) _
          refine XS.iload X28.here hx rfl (own_hb hby d1_12) rfl ?_
          show Steps p.tables e below (T28.setTop (mkF m 14 #[.val (.int i), .val .null, .val (.ref r), .val (.int (9 : Int32)), .val (.int (3 : Int32)), .val (.ref ad2)] [(.int (3 : Int32))])) _
          refine XS.iloadN X28.here hx rfl (own_hb hby d1_14) rfl ?_
          show Steps p.tables e below (T28.setTop (mkF m 15 #[.val (.int i), .val .null, .val (.ref r), .val (.int (9 : Int32)), .val (.int (3 : Int32)), .val (.ref ad2)] [(.int (9 : Int32)), (.int (3 : Int32))])) _
          refine XS.icmpNo X28.here hx rfl (own_hb hby d1_15) rfl (tlt (by decide : (3 : Int32) < (9 : Int32))).2.1 ?_
          show Steps p.tables e below (T28.setTop (mkF m 18 #[.val (.int i), .val .null, .val (.ref r), .val (.int (9 : Int32)), .val (.int (3 : Int32)), .val (.ref ad2)] [])) _
          refine XS.aloadN X28.here hx rfl (own_hb hby d1_18) rfl rfl ?_
          show Steps p.tables e below (T28.setTop (mkF m 19 #[.val (.int i), .val .null, .val (.ref r), .val (.int (9 : Int32)), .val (.int (3 : Int32)), .val (.ref ad2)] [(.ref r)])) _
          refine XS.iload X28.here hx rfl (own_hb hby d1_19) rfl ?_
          exact kt
        obtain ⟨cl30, Ar30, hin30, hat30⟩ := own_Ar.get (j := (3 : Int32)) (k := 3) pr1 ⟨rfl, by decide⟩
        refine own_Go.of (S' := (T28.setTop (mkF m 26 #[.val (.int i), .val .null, .val (.ref r), .val (.int (9 : Int32)), .val (.int (3 : Int32)), .val (.ref ad3)] [(.ref ad3)]))) (fun t kt => ?_) ?_
        · show Steps p.tables e below (T28.setTop (mkF m 21 #[.val (.int i), .val .null, .val (.ref r), .val (.int (9 : Int32)), .val (.int (3 : Int32)), .val (.ref ad2)] [(.int (3 : Int32)), (.ref r)])) _
          refine X28.aaload hx (j := (3 : Int32)) (v := (.ref ad3)) (by rw [e28]; exact Ar30.1) (State.isArrayOf_alike hZ.alike Ar30.2.1) rfl Ar30.2.2 hin30 hat30 (g := (mkF m 21 #[.val (.int i), .val .null, .val (.ref r), .val (.int (9 : Int32)), .val (.int (3 : Int32)), .val (.ref ad2)] [(.int (3 : Int32)), (.ref r)])) rfl rfl (own_hb hby d1_21) _ ?_
          show Steps p.tables e below (T28.setTop (mkF m 22 #[.val (.int i), .val .null, .val (.ref r), .val (.int (9 : Int32)), .val (.int (3 : Int32)), .val (.ref ad2)] [(.ref ad3)])) _
          refine XS.astore X28.here hx rfl (own_hb hby d1_22) rfl rfl (l' := #[.val (.int i), .val .null, .val (.ref r), .val (.int (9 : Int32)), .val (.int (3 : Int32)), .val (.ref ad3)]) rfl ?_
          show Steps p.tables e below (T28.setTop (mkF m 24 #[.val (.int i), .val .null, .val (.ref r), .val (.int (9 : Int32)), .val (.int (3 : Int32)), .val (.ref ad3)] [])) _
          refine XS.aload X28.here hx rfl (own_hb hby d1_24) rfl rfl ?_
          exact kt
        obtain ⟨T31, X31, e31, st31⟩ := getF X28 hx hZ hown (host := "") (Or.inl (hw _ (List.mem_of_getElem? (i := 7) rfl))) Via.refl e28 pr5 (g := (mkF m 26 #[.val (.int i), .val .null, .val (.ref r), .val (.int (9 : Int32)), .val (.int (3 : Int32)), .val (.ref ad3)] [(.ref ad3)])) rfl rfl (own_hb hby d1_26)
        refine own_Go.of (S' := (T31.setTop (mkF m 29 #[.val (.int i), .val .null, .val (.ref r), .val (.int (9 : Int32)), .val (.int (3 : Int32)), .val (.ref ad3)] [(.int (4 : Int32))]))) st31 ?_
        refine own_Go.of (S' := (T31.setTop (mkF m 30 #[.val (.int i), .val .null, .val (.ref r), .val (.int (9 : Int32)), .val (.int (3 : Int32)), .val (.ref ad3)] [(.int i), (.int (4 : Int32))]))) (fun t kt => ?_) ?_
        · show Steps p.tables e below (T31.setTop (mkF m 29 #[.val (.int i), .val .null, .val (.ref r), .val (.int (9 : Int32)), .val (.int (3 : Int32)), .val (.ref ad3)] [(.int (4 : Int32))])) _
          refine XS.iloadN X31.here hx rfl (own_hb hby d1_29) rfl ?_
          exact kt
        by_cases hc30_32 : (4 : Int32) = i
        · skip
          refine own_Go.of (S' := (T31.setTop (mkF m 46 #[.val (.int i), .val (.ref ad3), .val (.ref r), .val (.int (9 : Int32)), .val (.int (3 : Int32)), .val (.ref ad3)] [(.ref ad3)]))) (fun t kt => ?_) ?_
          · show Steps p.tables e below (T31.setTop (mkF m 30 #[.val (.int i), .val .null, .val (.ref r), .val (.int (9 : Int32)), .val (.int (3 : Int32)), .val (.ref ad3)] [(.int i), (.int (4 : Int32))])) _
            refine XS.icmpNo X31.here hx rfl (own_hb hby d1_30) rfl (teq hc30_32).2 ?_
            show Steps p.tables e below (T31.setTop (mkF m 33 #[.val (.int i), .val .null, .val (.ref r), .val (.int (9 : Int32)), .val (.int (3 : Int32)), .val (.ref ad3)] [])) _
            refine XS.aload X31.here hx rfl (own_hb hby d1_33) rfl rfl ?_
            show Steps p.tables e below (T31.setTop (mkF m 35 #[.val (.int i), .val .null, .val (.ref r), .val (.int (9 : Int32)), .val (.int (3 : Int32)), .val (.ref ad3)] [(.ref ad3)])) _
            refine XS.astoreN X31.here hx rfl (own_hb hby d1_35) rfl rfl (l' := #[.val (.int i), .val (.ref ad3), .val (.ref r), .val (.int (9 : Int32)), .val (.int (3 : Int32)), .val (.ref ad3)]) rfl ?_
            show Steps p.tables e below (T31.setTop (mkF m 36 #[.val (.int i), .val (.ref ad3), .val (.ref r), .val (.int (9 : Int32)), .val (.int (3 : Int32)), .val (.ref ad3)] [])) _
            refine XS.goto X31.here hx rfl (pc0 := 36) (pc' := 45) rfl (own_hb hby d1_36) (by decide) (by decide) ?_
            show Steps p.tables e below (T31.setTop (mkF m 45 #[.val (.int i), .val (.ref ad3), .val (.ref r), .val (.int (9 : Int32)), .val (.int (3 : Int32)), .val (.ref ad3)] [])) _
            refine XS.aloadN X31.here hx rfl (own_hb hby d1_45) rfl rfl ?_
            exact kt
          exact own_retA X31 hx hlk hret rfl rfl (own_hb hby d1_46) e31 ⟨by unfold own_exp; rw [if_neg hc30_23, if_neg hc30_26, if_neg hc30_29, if_pos hc30_32], N0, rfl⟩ (by decide) (by decide)
        · skip
          refine own_Go.of (S' := (T31.setTop (mkF m 21 #[.val (.int i), .val .null, .val (.ref r), .val (.int (9 : Int32)), .val (.int (4 : Int32)), .val (.ref ad3)] [(.int (4 : Int32)), (.ref r)]))) (fun t kt => ?_) ?_
          · show Steps p.tables e below (T31.setTop (mkF m 30 #[.val (.int i), .val .null, .val (.ref r), .val (.int (9 : Int32)), .val (.int (3 : Int32)), .val (.ref ad3)] [(.int i), (.int (4 : Int32))])) _
            refine XS.icmpYes X31.here hx rfl (pc0 := 30) (pc' := 39) rfl (own_hb hby d1_30) rfl (feq hc30_32).2 (by decide) (by decide) ?_
            show Steps p.tables e below (T31.setTop (mkF m 39 #[.val (.int i), .val .null, .val (.ref r), .val (.int (9 : Int32)), .val (.int (3 : Int32)), .val (.ref ad3)] [])) _
            refine XS.iinc X31.here hx rfl (own_hb hby d1_39) rfl (l' := #[.val (.int i), .val .null, .val (.ref r), .val (.int (9 : Int32)), .val (.int (4 : Int32)), .val (.ref ad3)]) rfl ?_
            show Steps p.tables e below (T31.setTop (mkF m 42 #[.val (.int i), .val .null, .val (.ref r), .val (.int (9 : Int32)), .val (.int (4 : Int32)), .val (.ref ad3)] [])) _
            refine XS.goto X31.here hx rfl (pc0 := 42) (pc' := 12) rfl (own_hb hby d1_42) (by decide) (by decide) ?_
            show Steps p.tables e below (T31.setTop (mkF m 12 #[.val (.int i), .val .null, .val (.ref r), .val (.int (9 : Int32)), .val (.int (4 : Int32)), .val (.ref ad3)] [])) _
            refine XS.iload X31.here hx rfl (own_hb hby d1_12) rfl ?_
            show Steps p.tables e below (T31.setTop (mkF m 14 #[.val (.int i), .val .null, .val (.ref r), .val (.int (9 : Int32)), .val (.int (4 : Int32)), .val (.ref ad3)] [(.int (4 : Int32))])) _
            refine XS.iloadN X31.here hx rfl (own_hb hby d1_14) rfl ?_
            show Steps p.tables e below (T31.setTop (mkF m 15 #[.val (.int i), .val .null, .val (.ref r), .val (.int (9 : Int32)), .val (.int (4 : Int32)), .val (.ref ad3)] [(.int (9 : Int32)), (.int (4 : Int32))])) _
            refine XS.icmpNo X31.here hx rfl (own_hb hby d1_15) rfl (tlt (by decide : (4 : Int32) < (9 : Int32))).2.1 ?_
            show Steps p.tables e below (T31.setTop (mkF m 18 #[.val (.int i), .val .null, .val (.ref r), .val (.int (9 : Int32)), .val (.int (4 : Int32)), .val (.ref ad3)] [])) _
            refine XS.aloadN X31.here hx rfl (own_hb hby d1_18) rfl rfl ?_
            show Steps p.tables e below (T31.setTop (mkF m 19 #[.val (.int i), .val .null, .val (.ref r), .val (.int (9 : Int32)), .val (.int (4 : Int32)), .val (.ref ad3)] [(.ref r)])) _
            refine XS.iload X31.here hx rfl (own_hb hby d1_19) rfl ?_
            exact kt
          obtain ⟨cl33, Ar33, hin33, hat33⟩ := own_Ar.get (j := (4 : Int32)) (k := 4) pr1 ⟨rfl, by decide⟩
          refine own_Go.of (S' := (T31.setTop (mkF m 26 #[.val (.int i), .val .null, .val (.ref r), .val (.int (9 : Int32)), .val (.int (4 : Int32)), .val (.ref ad4)] [(.ref ad4)]))) (fun t kt => ?_) ?_
          · show Steps p.tables e below (T31.setTop (mkF m 21 #[.val (.int i), .val .null, .val (.ref r), .val (.int (9 : Int32)), .val (.int (4 : Int32)), .val (.ref ad3)] [(.int (4 : Int32)), (.ref r)])) _
            refine X31.aaload hx (j := (4 : Int32)) (v := (.ref ad4)) (by rw [e31]; exact Ar33.1) (State.isArrayOf_alike hZ.alike Ar33.2.1) rfl Ar33.2.2 hin33 hat33 (g := (mkF m 21 #[.val (.int i), .val .null, .val (.ref r), .val (.int (9 : Int32)), .val (.int (4 : Int32)), .val (.ref ad3)] [(.int (4 : Int32)), (.ref r)])) rfl rfl (own_hb hby d1_21) _ ?_
            show Steps p.tables e below (T31.setTop (mkF m 22 #[.val (.int i), .val .null, .val (.ref r), .val (.int (9 : Int32)), .val (.int (4 : Int32)), .val (.ref ad3)] [(.ref ad4)])) _
            refine XS.astore X31.here hx rfl (own_hb hby d1_22) rfl rfl (l' := #[.val (.int i), .val .null, .val (.ref r), .val (.int (9 : Int32)), .val (.int (4 : Int32)), .val (.ref ad4)]) rfl ?_
            show Steps p.tables e below (T31.setTop (mkF m 24 #[.val (.int i), .val .null, .val (.ref r), .val (.int (9 : Int32)), .val (.int (4 : Int32)), .val (.ref ad4)] [])) _
            refine XS.aload X31.here hx rfl (own_hb hby d1_24) rfl rfl ?_
            exact kt
          obtain ⟨T34, X34, e34, st34⟩ := getF X31 hx hZ hown (host := "") (Or.inl (hw _ (List.mem_of_getElem? (i := 7) rfl))) Via.refl e31 pr6 (g := (mkF m 26 #[.val (.int i), .val .null, .val (.ref r), .val (.int (9 : Int32)), .val (.int (4 : Int32)), .val (.ref ad4)] [(.ref ad4)])) rfl rfl (own_hb hby d1_26)
          refine own_Go.of (S' := (T34.setTop (mkF m 29 #[.val (.int i), .val .null, .val (.ref r), .val (.int (9 : Int32)), .val (.int (4 : Int32)), .val (.ref ad4)] [(.int (6 : Int32))]))) st34 ?_
          refine own_Go.of (S' := (T34.setTop (mkF m 30 #[.val (.int i), .val .null, .val (.ref r), .val (.int (9 : Int32)), .val (.int (4 : Int32)), .val (.ref ad4)] [(.int i), (.int (6 : Int32))]))) (fun t kt => ?_) ?_
          · show Steps p.tables e below (T34.setTop (mkF m 29 #[.val (.int i), .val .null, .val (.ref r), .val (.int (9 : Int32)), .val (.int (4 : Int32)), .val (.ref ad4)] [(.int (6 : Int32))])) _
            refine XS.iloadN X34.here hx rfl (own_hb hby d1_29) rfl ?_
            exact kt
          by_cases hc30_35 : (6 : Int32) = i
          · skip
            refine own_Go.of (S' := (T34.setTop (mkF m 46 #[.val (.int i), .val (.ref ad4), .val (.ref r), .val (.int (9 : Int32)), .val (.int (4 : Int32)), .val (.ref ad4)] [(.ref ad4)]))) (fun t kt => ?_) ?_
            · show Steps p.tables e below (T34.setTop (mkF m 30 #[.val (.int i), .val .null, .val (.ref r), .val (.int (9 : Int32)), .val (.int (4 : Int32)), .val (.ref ad4)] [(.int i), (.int (6 : Int32))])) _
              refine XS.icmpNo X34.here hx rfl (own_hb hby d1_30) rfl (teq hc30_35).2 ?_
              show Steps p.tables e below (T34.setTop (mkF m 33 #[.val (.int i), .val .null, .val (.ref r), .val (.int (9 : Int32)), .val (.int (4 : Int32)), .val (.ref ad4)] [])) _
              refine XS.aload X34.here hx rfl (own_hb hby d1_33) rfl rfl ?_
              show Steps p.tables e below (T34.setTop (mkF m 35 #[.val (.int i), .val .null, .val (.ref r), .val (.int (9 : Int32)), .val (.int (4 : Int32)), .val (.ref ad4)] [(.ref ad4)])) _
              refine XS.astoreN X34.here hx rfl (own_hb hby d1_35) rfl rfl (l' := #[.val (.int i), .val (.ref ad4), .val (.ref r), .val (.int (9 : Int32)), .val (.int (4 : Int32)), .val (.ref ad4)]) rfl ?_
              show Steps p.tables e below (T34.setTop (mkF m 36 #[.val (.int i), .val (.ref ad4), .val (.ref r), .val (.int (9 : Int32)), .val (.int (4 : Int32)), .val (.ref ad4)] [])) _
              refine XS.goto X34.here hx rfl (pc0 := 36) (pc' := 45) rfl (own_hb hby d1_36) (by decide) (by decide) ?_
              show Steps p.tables e below (T34.setTop (mkF m 45 #[.val (.int i), .val (.ref ad4), .val (.ref r), .val (.int (9 : Int32)), .val (.int (4 : Int32)), .val (.ref ad4)] [])) _
              refine XS.aloadN X34.here hx rfl (own_hb hby d1_45) rfl rfl ?_
              exact kt
            exact own_retA X34 hx hlk hret rfl rfl (own_hb hby d1_46) e34 ⟨by unfold own_exp; rw [if_neg hc30_23, if_neg hc30_26, if_neg hc30_29, if_neg hc30_32, if_pos hc30_35], N0, rfl⟩ (by decide) (by decide)
          · skip
            refine own_Go.of (S' := (T34.setTop (mkF m 21 #[.val (.int i), .val .null, .val (.ref r), .val (.int (9 : Int32)), .val (.int (5 : Int32)), .val (.ref ad4)] [(.int (5 : Int32)), (.ref r)]))) (fun t kt => ?_) ?_
            · show Steps p.tables e below (T34.setTop (mkF m 30 #[.val (.int i), .val .null, .val (.ref r), .val (.int (9 : Int32)), .val (.int (4 : Int32)), .val (.ref ad4)] [(.int i), (.int (6 : Int32))])) _
              refine XS.icmpYes X34.here hx rfl (pc0 := 30) (pc' := 39) rfl (own_hb hby d1_30) rfl (feq hc30_35).2 (by decide) (by decide) ?_
              show Steps p.tables e below (T34.setTop (mkF m 39 #[.val (.int i), .val .null, .val (.ref r), .val (.int (9 : Int32)), .val (.int (4 : Int32)), .val (.ref ad4)] [])) _
              refine XS.iinc X34.here hx rfl (own_hb hby d1_39) rfl (l' := #[.val (.int i), .val .null, .val (.ref r), .val (.int (9 : Int32)), .val (.int (5 : Int32)), .val (.ref ad4)]) rfl ?_
              show Steps p.tables e below (T34.setTop (mkF m 42 #[.val (.int i), .val .null, .val (.ref r), .val (.int (9 : Int32)), .val (.int (5 : Int32)), .val (.ref ad4)] [])) _
              refine XS.goto X34.here hx rfl (pc0 := 42) (pc' := 12) rfl (own_hb hby d1_42) (by decide) (by decide) ?_
              show Steps p.tables e below (T34.setTop (mkF m 12 #[.val (.int i), .val .null, .val (.ref r), .val (.int (9 : Int32)), .val (.int (5 : Int32)), .val (.ref ad4)] [])) _
              refine XS.iload X34.here hx rfl (own_hb hby d1_12) rfl ?_
              show Steps p.tables e below (T34.setTop (mkF m 14 #[.val (.int i), .val .null, .val (.ref r), .val (.int (9 : Int32)), .val (.int (5 : Int32)), .val (.ref ad4)] [(.int (5 : Int32))])) _
              refine XS.iloadN X34.here hx rfl (own_hb hby d1_14) rfl ?_
              show Steps p.tables e below (T34.setTop (mkF m 15 #[.val (.int i), .val .null, .val (.ref r), .val (.int (9 : Int32)), .val (.int (5 : Int32)), .val (.ref ad4)] [(.int (9 : Int32)), (.int (5 : Int32))])) _
              refine XS.icmpNo X34.here hx rfl (own_hb hby d1_15) rfl (tlt (by decide : (5 : Int32) < (9 : Int32))).2.1 ?_
              show Steps p.tables e below (T34.setTop (mkF m 18 #[.val (.int i), .val .null, .val (.ref r), .val (.int (9 : Int32)), .val (.int (5 : Int32)), .val (.ref ad4)] [])) _
              refine XS.aloadN X34.here hx rfl (own_hb hby d1_18) rfl rfl ?_
              show Steps p.tables e below (T34.setTop (mkF m 19 #[.val (.int i), .val .null, .val (.ref r), .val (.int (9 : Int32)), .val (.int (5 : Int32)), .val (.ref ad4)] [(.ref r)])) _
              refine XS.iload X34.here hx rfl (own_hb hby d1_19) rfl ?_
              exact kt
            obtain ⟨cl36, Ar36, hin36, hat36⟩ := own_Ar.get (j := (5 : Int32)) (k := 5) pr1 ⟨rfl, by decide⟩
            refine own_Go.of (S' := (T34.setTop (mkF m 26 #[.val (.int i), .val .null, .val (.ref r), .val (.int (9 : Int32)), .val (.int (5 : Int32)), .val (.ref ad5)] [(.ref ad5)]))) (fun t kt => ?_) ?_
            · show Steps p.tables e below (T34.setTop (mkF m 21 #[.val (.int i), .val .null, .val (.ref r), .val (.int (9 : Int32)), .val (.int (5 : Int32)), .val (.ref ad4)] [(.int (5 : Int32)), (.ref r)])) _
              refine X34.aaload hx (j := (5 : Int32)) (v := (.ref ad5)) (by rw [e34]; exact Ar36.1) (State.isArrayOf_alike hZ.alike Ar36.2.1) rfl Ar36.2.2 hin36 hat36 (g := (mkF m 21 #[.val (.int i), .val .null, .val (.ref r), .val (.int (9 : Int32)), .val (.int (5 : Int32)), .val (.ref ad4)] [(.int (5 : Int32)), (.ref r)])) rfl rfl (own_hb hby d1_21) _ ?_
              show Steps p.tables e below (T34.setTop (mkF m 22 #[.val (.int i), .val .null, .val (.ref r), .val (.int (9 : Int32)), .val (.int (5 : Int32)), .val (.ref ad4)] [(.ref ad5)])) _
              refine XS.astore X34.here hx rfl (own_hb hby d1_22) rfl rfl (l' := #[.val (.int i), .val .null, .val (.ref r), .val (.int (9 : Int32)), .val (.int (5 : Int32)), .val (.ref ad5)]) rfl ?_
              show Steps p.tables e below (T34.setTop (mkF m 24 #[.val (.int i), .val .null, .val (.ref r), .val (.int (9 : Int32)), .val (.int (5 : Int32)), .val (.ref ad5)] [])) _
              refine XS.aload X34.here hx rfl (own_hb hby d1_24) rfl rfl ?_
              exact kt
            obtain ⟨T37, X37, e37, st37⟩ := getF X34 hx hZ hown (host := "") (Or.inl (hw _ (List.mem_of_getElem? (i := 7) rfl))) Via.refl e34 pr7 (g := (mkF m 26 #[.val (.int i), .val .null, .val (.ref r), .val (.int (9 : Int32)), .val (.int (5 : Int32)), .val (.ref ad5)] [(.ref ad5)])) rfl rfl (own_hb hby d1_26)
            refine own_Go.of (S' := (T37.setTop (mkF m 29 #[.val (.int i), .val .null, .val (.ref r), .val (.int (9 : Int32)), .val (.int (5 : Int32)), .val (.ref ad5)] [(.int (7 : Int32))]))) st37 ?_
            refine own_Go.of (S' := (T37.setTop (mkF m 30 #[.val (.int i), .val .null, .val (.ref r), .val (.int (9 : Int32)), .val (.int (5 : Int32)), .val (.ref ad5)] [(.int i), (.int (7 : Int32))]))) (fun t kt => ?_) ?_
            · show Steps p.tables e below (T37.setTop (mkF m 29 #[.val (.int i), .val .null, .val (.ref r), .val (.int (9 : Int32)), .val (.int (5 : Int32)), .val (.ref ad5)] [(.int (7 : Int32))])) _
              refine XS.iloadN X37.here hx rfl (own_hb hby d1_29) rfl ?_
              exact kt
            by_cases hc30_38 : (7 : Int32) = i
            · skip
              refine own_Go.of (S' := (T37.setTop (mkF m 46 #[.val (.int i), .val (.ref ad5), .val (.ref r), .val (.int (9 : Int32)), .val (.int (5 : Int32)), .val (.ref ad5)] [(.ref ad5)]))) (fun t kt => ?_) ?_
              · show Steps p.tables e below (T37.setTop (mkF m 30 #[.val (.int i), .val .null, .val (.ref r), .val (.int (9 : Int32)), .val (.int (5 : Int32)), .val (.ref ad5)] [(.int i), (.int (7 : Int32))])) _
                refine XS.icmpNo X37.here hx rfl (own_hb hby d1_30) rfl (teq hc30_38).2 ?_
                show Steps p.tables e below (T37.setTop (mkF m 33 #[.val (.int i), .val .null, .val (.ref r), .val (.int (9 : Int32)), .val (.int (5 : Int32)), .val (.ref ad5)] [])) _
                refine XS.aload X37.here hx rfl (own_hb hby d1_33) rfl rfl ?_
                show Steps p.tables e below (T37.setTop (mkF m 35 #[.val (.int i), .val .null, .val (.ref r), .val (.int (9 : Int32)), .val (.int (5 : Int32)), .val (.ref ad5)] [(.ref ad5)])) _
                refine XS.astoreN X37.here hx rfl (own_hb hby d1_35) rfl rfl (l' := #[.val (.int i), .val (.ref ad5), .val (.ref r), .val (.int (9 : Int32)), .val (.int (5 : Int32)), .val (.ref ad5)]) rfl ?_
                show Steps p.tables e below (T37.setTop (mkF m 36 #[.val (.int i), .val (.ref ad5), .val (.ref r), .val (.int (9 : Int32)), .val (.int (5 : Int32)), .val (.ref ad5)] [])) _
                refine XS.goto X37.here hx rfl (pc0 := 36) (pc' := 45) rfl (own_hb hby d1_36) (by decide) (by decide) ?_
                show Steps p.tables e below (T37.setTop (mkF m 45 #[.val (.int i), .val (.ref ad5), .val (.ref r), .val (.int (9 : Int32)), .val (.int (5 : Int32)), .val (.ref ad5)] [])) _
                refine XS.aloadN X37.here hx rfl (own_hb hby d1_45) rfl rfl ?_
                exact kt
              exact own_retA X37 hx hlk hret rfl rfl (own_hb hby d1_46) e37 ⟨by unfold own_exp; rw [if_neg hc30_23, if_neg hc30_26, if_neg hc30_29, if_neg hc30_32, if_neg hc30_35, if_pos hc30_38], N0, rfl⟩ (by decide) (by decide)
            · skip
              refine own_Go.of (S' := (T37.setTop (mkF m 21 #[.val (.int i), .val .null, .val (.ref r), .val (.int (9 : Int32)), .val (.int (6 : Int32)), .val (.ref ad5)] [(.int (6 : Int32)), (.ref r)]))) (fun t kt => ?_) ?_
              · show Steps p.tables e below (T37.setTop (mkF m 30 #[.val (.int i), .val .null, .val (.ref r), .val (.int (9 : Int32)), .val (.int (5 : Int32)), .val (.ref ad5)] [(.int i), (.int (7 : Int32))])) _
                refine XS.icmpYes X37.here hx rfl (pc0 := 30) (pc' := 39) rfl (own_hb hby d1_30) rfl (feq hc30_38).2 (by decide) (by decide) ?_
                show Steps p.tables e below (T37.setTop (mkF m 39 #[.val (.int i), .val .null, .val (.ref r), .val (.int (9 : Int32)), .val (.int (5 : Int32)), .val (.ref ad5)] [])) _
                refine XS.iinc X37.here hx rfl (own_hb hby d1_39) rfl (l' := #[.val (.int i), .val .null, .val (.ref r), .val (.int (9 : Int32)), .val (.int (6 : Int32)), .val (.ref ad5)]) rfl ?_
                show Steps p.tables e below (T37.setTop (mkF m 42 #[.val (.int i), .val .null, .val (.ref r), .val (.int (9 : Int32)), .val (.int (6 : Int32)), .val (.ref ad5)] [])) _
                refine XS.goto X37.here hx rfl (pc0 := 42) (pc' := 12) rfl (own_hb hby d1_42) (by decide) (by decide) ?_
                show Steps p.tables e below (T37.setTop (mkF m 12 #[.val (.int i), .val .null, .val (.ref r), .val (.int (9 : Int32)), .val (.int (6 : Int32)), .val (.ref ad5)] [])) _
                refine XS.iload X37.here hx rfl (own_hb hby d1_12) rfl ?_
                show Steps p.tables e below (T37.setTop (mkF m 14 #[.val (.int i), .val .null, .val (.ref r), .val (.int (9 : Int32)), .val (.int (6 : Int32)), .val (.ref ad5)] [(.int (6 : Int32))])) _
                refine XS.iloadN X37.here hx rfl (own_hb hby d1_14) rfl ?_
                show Steps p.tables e below (T37.setTop (mkF m 15 #[.val (.int i), .val .null, .val (.ref r), .val (.int (9 : Int32)), .val (.int (6 : Int32)), .val (.ref ad5)] [(.int (9 : Int32)), (.int (6 : Int32))])) _
                refine XS.icmpNo X37.here hx rfl (own_hb hby d1_15) rfl (tlt (by decide : (6 : Int32) < (9 : Int32))).2.1 ?_
                show Steps p.tables e below (T37.setTop (mkF m 18 #[.val (.int i), .val .null, .val (.ref r), .val (.int (9 : Int32)), .val (.int (6 : Int32)), .val (.ref ad5)] [])) _
                refine XS.aloadN X37.here hx rfl (own_hb hby d1_18) rfl rfl ?_
                show Steps p.tables e below (T37.setTop (mkF m 19 #[.val (.int i), .val .null, .val (.ref r), .val (.int (9 : Int32)), .val (.int (6 : Int32)), .val (.ref ad5)] [(.ref r)])) _
                refine XS.iload X37.here hx rfl (own_hb hby d1_19) rfl ?_
                exact kt
              obtain ⟨cl39, Ar39, hin39, hat39⟩ := own_Ar.get (j := (6 : Int32)) (k := 6) pr1 ⟨rfl, by decide⟩
              refine own_Go.of (S' := (T37.setTop (mkF m 26 #[.val (.int i), .val .null, .val (.ref r), .val (.int (9 : Int32)), .val (.int (6 : Int32)), .val (.ref ad6)] [(.ref ad6)]))) (fun t kt => ?_) ?_
              · show Steps p.tables e below (T37.setTop (mkF m 21 #[.val (.int i), .val .null, .val (.ref r), .val (.int (9 : Int32)), .val (.int (6 : Int32)), .val (.ref ad5)] [(.int (6 : Int32)), (.ref r)])) _
                refine X37.aaload hx (j := (6 : Int32)) (v := (.ref ad6)) (by rw [e37]; exact Ar39.1) (State.isArrayOf_alike hZ.alike Ar39.2.1) rfl Ar39.2.2 hin39 hat39 (g := (mkF m 21 #[.val (.int i), .val .null, .val (.ref r), .val (.int (9 : Int32)), .val (.int (6 : Int32)), .val (.ref ad5)] [(.int (6 : Int32)), (.ref r)])) rfl rfl (own_hb hby d1_21) _ ?_
                show Steps p.tables e below (T37.setTop (mkF m 22 #[.val (.int i), .val .null, .val (.ref r), .val (.int (9 : Int32)), .val (.int (6 : Int32)), .val (.ref ad5)] [(.ref ad6)])) _
                refine XS.astore X37.here hx rfl (own_hb hby d1_22) rfl rfl (l' := #[.val (.int i), .val .null, .val (.ref r), .val (.int (9 : Int32)), .val (.int (6 : Int32)), .val (.ref ad6)]) rfl ?_
                show Steps p.tables e below (T37.setTop (mkF m 24 #[.val (.int i), .val .null, .val (.ref r), .val (.int (9 : Int32)), .val (.int (6 : Int32)), .val (.ref ad6)] [])) _
                refine XS.aload X37.here hx rfl (own_hb hby d1_24) rfl rfl ?_
                exact kt
              obtain ⟨T40, X40, e40, st40⟩ := getF X37 hx hZ hown (host := "") (Or.inl (hw _ (List.mem_of_getElem? (i := 7) rfl))) Via.refl e37 pr8 (g := (mkF m 26 #[.val (.int i), .val .null, .val (.ref r), .val (.int (9 : Int32)), .val (.int (6 : Int32)), .val (.ref ad6)] [(.ref ad6)])) rfl rfl (own_hb hby d1_26)
              refine own_Go.of (S' := (T40.setTop (mkF m 29 #[.val (.int i), .val .null, .val (.ref r), .val (.int (9 : Int32)), .val (.int (6 : Int32)), .val (.ref ad6)] [(.int (8 : Int32))]))) st40 ?_
              refine own_Go.of (S' := (T40.setTop (mkF m 30 #[.val (.int i), .val .null, .val (.ref r), .val (.int (9 : Int32)), .val (.int (6 : Int32)), .val (.ref ad6)] [(.int i), (.int (8 : Int32))]))) (fun t kt => ?_) ?_
              · show Steps p.tables e below (T40.setTop (mkF m 29 #[.val (.int i), .val .null, .val (.ref r), .val (.int (9 : Int32)), .val (.int (6 : Int32)), .val (.ref ad6)] [(.int (8 : Int32))])) _
                refine XS.iloadN X40.here hx rfl (own_hb hby d1_29) rfl ?_
                exact kt
              by_cases hc30_41 : (8 : Int32) = i
              · skip
                refine own_Go.of (S' := (T40.setTop (mkF m 46 #[.val (.int i), .val (.ref ad6), .val (.ref r), .val (.int (9 : Int32)), .val (.int (6 : Int32)), .val (.ref ad6)] [(.ref ad6)]))) (fun t kt => ?_) ?_
                · show Steps p.tables e below (T40.setTop (mkF m 30 #[.val (.int i), .val .null, .val (.ref r), .val (.int (9 : Int32)), .val (.int (6 : Int32)), .val (.ref ad6)] [(.int i), (.int (8 : Int32))])) _
                  refine XS.icmpNo X40.here hx rfl (own_hb hby d1_30) rfl (teq hc30_41).2 ?_
                  show Steps p.tables e below (T40.setTop (mkF m 33 #[.val (.int i), .val .null, .val (.ref r), .val (.int (9 : Int32)), .val (.int (6 : Int32)), .val (.ref ad6)] [])) _
                  refine XS.aload X40.here hx rfl (own_hb hby d1_33) rfl rfl ?_
                  show Steps p.tables e below (T40.setTop (mkF m 35 #[.val (.int i), .val .null, .val (.ref r), .val (.int (9 : Int32)), .val (.int (6 : Int32)), .val (.ref ad6)] [(.ref ad6)])) _
                  refine XS.astoreN X40.here hx rfl (own_hb hby d1_35) rfl rfl (l' := #[.val (.int i), .val (.ref ad6), .val (.ref r), .val (.int (9 : Int32)), .val (.int (6 : Int32)), .val (.ref ad6)]) rfl ?_
                  show Steps p.tables e below (T40.setTop (mkF m 36 #[.val (.int i), .val (.ref ad6), .val (.ref r), .val (.int (9 : Int32)), .val (.int (6 : Int32)), .val (.ref ad6)] [])) _
                  refine XS.goto X40.here hx rfl (pc0 := 36) (pc' := 45) rfl (own_hb hby d1_36) (by decide) (by decide) ?_
                  show Steps p.tables e below (T40.setTop (mkF m 45 #[.val (.int i), .val (.ref ad6), .val (.ref r), .val (.int (9 : Int32)), .val (.int (6 : Int32)), .val (.ref ad6)] [])) _
                  refine XS.aloadN X40.here hx rfl (own_hb hby d1_45) rfl rfl ?_
                  exact kt
                exact own_retA X40 hx hlk hret rfl rfl (own_hb hby d1_46) e40 ⟨by unfold own_exp; rw [if_neg hc30_23, if_neg hc30_26, if_neg hc30_29, if_neg hc30_32, if_neg hc30_35, if_neg hc30_38, if_pos hc30_41], N0, rfl⟩ (by decide) (by decide)
              · skip
                refine own_Go.of (S' := (T40.setTop (mkF m 21 #[.val (.int i), .val .null, .val (.ref r), .val (.int (9 : Int32)), .val (.int (7 : Int32)), .val (.ref ad6)] [(.int (7 : Int32)), (.ref r)]))) (fun t kt => ?_) ?_
                · show Steps p.tables e below (T40.setTop (mkF m 30 #[.val (.int i), .val .null, .val (.ref r), .val (.int (9 : Int32)), .val (.int (6 : Int32)), .val (.ref ad6)] [(.int i), (.int (8 : Int32))])) _
                  refine XS.icmpYes X40.here hx rfl (pc0 := 30) (pc' := 39) rfl (own_hb hby d1_30) rfl (feq hc30_41).2 (by decide) (by decide) ?_
                  show Steps p.tables e below (T40.setTop (mkF m 39 #[.val (.int i), .val .null, .val (.ref r), .val (.int (9 : Int32)), .val (.int (6 : Int32)), .val (.ref ad6)] [])) _
                  refine XS.iinc X40.here hx rfl (own_hb hby d1_39) rfl (l' := #[.val (.int i), .val .null, .val (.ref r), .val (.int (9 : Int32)), .val (.int (7 : Int32)), .val (.ref ad6)]) rfl ?_
                  show Steps p.tables e below (T40.setTop (mkF m 42 #[.val (.int i), .val .null, .val (.ref r), .val (.int (9 : Int32)), .val (.int (7 : Int32)), .val (.ref ad6)] [])) _
                  refine XS.goto X40.here hx rfl (pc0 := 42) (pc' := 12) rfl (own_hb hby d1_42) (by decide) (by decide) ?_
                  show Steps p.tables e below (T40.setTop (mkF m 12 #[.val (.int i), .val .null, .val (.ref r), .val (.int (9 : Int32)), .val (.int (7 : Int32)), .val (.ref ad6)] [])) _
                  refine XS.iload X40.here hx rfl (own_hb hby d1_12) rfl ?_
                  show Steps p.tables e below (T40.setTop (mkF m 14 #[.val (.int i), .val .null, .val (.ref r), .val (.int (9 : Int32)), .val (.int (7 : Int32)), .val (.ref ad6)] [(.int (7 : Int32))])) _
                  refine XS.iloadN X40.here hx rfl (own_hb hby d1_14) rfl ?_
                  show Steps p.tables e below (T40.setTop (mkF m 15 #[.val (.int i), .val .null, .val (.ref r), .val (.int (9 : Int32)), .val (.int (7 : Int32)), .val (.ref ad6)] [(.int (9 : Int32)), (.int (7 : Int32))])) _
                  refine XS.icmpNo X40.here hx rfl (own_hb hby d1_15) rfl (tlt (by decide : (7 : Int32) < (9 : Int32))).2.1 ?_
                  show Steps p.tables e below (T40.setTop (mkF m 18 #[.val (.int i), .val .null, .val (.ref r), .val (.int (9 : Int32)), .val (.int (7 : Int32)), .val (.ref ad6)] [])) _
                  refine XS.aloadN X40.here hx rfl (own_hb hby d1_18) rfl rfl ?_
                  show Steps p.tables e below (T40.setTop (mkF m 19 #[.val (.int i), .val .null, .val (.ref r), .val (.int (9 : Int32)), .val (.int (7 : Int32)), .val (.ref ad6)] [(.ref r)])) _
                  refine XS.iload X40.here hx rfl (own_hb hby d1_19) rfl ?_
                  exact kt
                obtain ⟨cl42, Ar42, hin42, hat42⟩ := own_Ar.get (j := (7 : Int32)) (k := 7) pr1 ⟨rfl, by decide⟩
                refine own_Go.of (S' := (T40.setTop (mkF m 26 #[.val (.int i), .val .null, .val (.ref r), .val (.int (9 : Int32)), .val (.int (7 : Int32)), .val (.ref ad7)] [(.ref ad7)]))) (fun t kt => ?_) ?_
                · show Steps p.tables e below (T40.setTop (mkF m 21 #[.val (.int i), .val .null, .val (.ref r), .val (.int (9 : Int32)), .val (.int (7 : Int32)), .val (.ref ad6)] [(.int (7 : Int32)), (.ref r)])) _
                  refine X40.aaload hx (j := (7 : Int32)) (v := (.ref ad7)) (by rw [e40]; exact Ar42.1) (State.isArrayOf_alike hZ.alike Ar42.2.1) rfl Ar42.2.2 hin42 hat42 (g := (mkF m 21 #[.val (.int i), .val .null, .val (.ref r), .val (.int (9 : Int32)), .val (.int (7 : Int32)), .val (.ref ad6)] [(.int (7 : Int32)), (.ref r)])) rfl rfl (own_hb hby d1_21) _ ?_
                  show Steps p.tables e below (T40.setTop (mkF m 22 #[.val (.int i), .val .null, .val (.ref r), .val (.int (9 : Int32)), .val (.int (7 : Int32)), .val (.ref ad6)] [(.ref ad7)])) _
                  refine XS.astore X40.here hx rfl (own_hb hby d1_22) rfl rfl (l' := #[.val (.int i), .val .null, .val (.ref r), .val (.int (9 : Int32)), .val (.int (7 : Int32)), .val (.ref ad7)]) rfl ?_
                  show Steps p.tables e below (T40.setTop (mkF m 24 #[.val (.int i), .val .null, .val (.ref r), .val (.int (9 : Int32)), .val (.int (7 : Int32)), .val (.ref ad7)] [])) _
                  refine XS.aload X40.here hx rfl (own_hb hby d1_24) rfl rfl ?_
                  exact kt
                obtain ⟨T43, X43, e43, st43⟩ := getF X40 hx hZ hown (host := "") (Or.inl (hw _ (List.mem_of_getElem? (i := 7) rfl))) Via.refl e40 pr9 (g := (mkF m 26 #[.val (.int i), .val .null, .val (.ref r), .val (.int (9 : Int32)), .val (.int (7 : Int32)), .val (.ref ad7)] [(.ref ad7)])) rfl rfl (own_hb hby d1_26)
                refine own_Go.of (S' := (T43.setTop (mkF m 29 #[.val (.int i), .val .null, .val (.ref r), .val (.int (9 : Int32)), .val (.int (7 : Int32)), .val (.ref ad7)] [(.int (9 : Int32))]))) st43 ?_
                refine own_Go.of (S' := (T43.setTop (mkF m 30 #[.val (.int i), .val .null, .val (.ref r), .val (.int (9 : Int32)), .val (.int (7 : Int32)), .val (.ref ad7)] [(.int i), (.int (9 : Int32))]))) (fun t kt => ?_) ?_
                · show Steps p.tables e below (T43.setTop (mkF m 29 #[.val (.int i), .val .null, .val (.ref r), .val (.int (9 : Int32)), .val (.int (7 : Int32)), .val (.ref ad7)] [(.int (9 : Int32))])) _
                  refine XS.iloadN X43.here hx rfl (own_hb hby d1_29) rfl ?_
                  exact kt
                by_cases hc30_44 : (9 : Int32) = i
                · skip
                  refine own_Go.of (S' := (T43.setTop (mkF m 46 #[.val (.int i), .val (.ref ad7), .val (.ref r), .val (.int (9 : Int32)), .val (.int (7 : Int32)), .val (.ref ad7)] [(.ref ad7)]))) (fun t kt => ?_) ?_
                  · show Steps p.tables e below (T43.setTop (mkF m 30 #[.val (.int i), .val .null, .val (.ref r), .val (.int (9 : Int32)), .val (.int (7 : Int32)), .val (.ref ad7)] [(.int i), (.int (9 : Int32))])) _
                    refine XS.icmpNo X43.here hx rfl (own_hb hby d1_30) rfl (teq hc30_44).2 ?_
                    show Steps p.tables e below (T43.setTop (mkF m 33 #[.val (.int i), .val .null, .val (.ref r), .val (.int (9 : Int32)), .val (.int (7 : Int32)), .val (.ref ad7)] [])) _
                    refine XS.aload X43.here hx rfl (own_hb hby d1_33) rfl rfl ?_
                    show Steps p.tables e below (T43.setTop (mkF m 35 #[.val (.int i), .val .null, .val (.ref r), .val (.int (9 : Int32)), .val (.int (7 : Int32)), .val (.ref ad7)] [(.ref ad7)])) _
                    refine XS.astoreN X43.here hx rfl (own_hb hby d1_35) rfl rfl (l' := #[.val (.int i), .val (.ref ad7), .val (.ref r), .val (.int (9 : Int32)), .val (.int (7 : Int32)), .val (.ref ad7)]) rfl ?_
                    show Steps p.tables e below (T43.setTop (mkF m 36 #[.val (.int i), .val (.ref ad7), .val (.ref r), .val (.int (9 : Int32)), .val (.int (7 : Int32)), .val (.ref ad7)] [])) _
                    refine XS.goto X43.here hx rfl (pc0 := 36) (pc' := 45) rfl (own_hb hby d1_36) (by decide) (by decide) ?_
                    show Steps p.tables e below (T43.setTop (mkF m 45 #[.val (.int i), .val (.ref ad7), .val (.ref r), .val (.int (9 : Int32)), .val (.int (7 : Int32)), .val (.ref ad7)] [])) _
                    refine XS.aloadN X43.here hx rfl (own_hb hby d1_45) rfl rfl ?_
                    exact kt
                  exact own_retA X43 hx hlk hret rfl rfl (own_hb hby d1_46) e43 ⟨by unfold own_exp; rw [if_neg hc30_23, if_neg hc30_26, if_neg hc30_29, if_neg hc30_32, if_neg hc30_35, if_neg hc30_38, if_neg hc30_41, if_pos hc30_44], N0, rfl⟩ (by decide) (by decide)
                · skip
                  refine own_Go.of (S' := (T43.setTop (mkF m 21 #[.val (.int i), .val .null, .val (.ref r), .val (.int (9 : Int32)), .val (.int (8 : Int32)), .val (.ref ad7)] [(.int (8 : Int32)), (.ref r)]))) (fun t kt => ?_) ?_
                  · show Steps p.tables e below (T43.setTop (mkF m 30 #[.val (.int i), .val .null, .val (.ref r), .val (.int (9 : Int32)), .val (.int (7 : Int32)), .val (.ref ad7)] [(.int i), (.int (9 : Int32))])) _
                    refine XS.icmpYes X43.here hx rfl (pc0 := 30) (pc' := 39) rfl (own_hb hby d1_30) rfl (feq hc30_44).2 (by decide) (by decide) ?_
                    show Steps p.tables e below (T43.setTop (mkF m 39 #[.val (.int i), .val .null, .val (.ref r), .val (.int (9 : Int32)), .val (.int (7 : Int32)), .val (.ref ad7)] [])) _
                    refine XS.iinc X43.here hx rfl (own_hb hby d1_39) rfl (l' := #[.val (.int i), .val .null, .val (.ref r), .val (.int (9 : Int32)), .val (.int (8 : Int32)), .val (.ref ad7)]) rfl ?_
                    show Steps p.tables e below (T43.setTop (mkF m 42 #[.val (.int i), .val .null, .val (.ref r), .val (.int (9 : Int32)), .val (.int (8 : Int32)), .val (.ref ad7)] [])) _
                    refine XS.goto X43.here hx rfl (pc0 := 42) (pc' := 12) rfl (own_hb hby d1_42) (by decide) (by decide) ?_
                    show Steps p.tables e below (T43.setTop (mkF m 12 #[.val (.int i), .val .null, .val (.ref r), .val (.int (9 : Int32)), .val (.int (8 : Int32)), .val (.ref ad7)] [])) _
                    refine XS.iload X43.here hx rfl (own_hb hby d1_12) rfl ?_
                    show Steps p.tables e below (T43.setTop (mkF m 14 #[.val (.int i), .val .null, .val (.ref r), .val (.int (9 : Int32)), .val (.int (8 : Int32)), .val (.ref ad7)] [(.int (8 : Int32))])) _
                    refine XS.iloadN X43.here hx rfl (own_hb hby d1_14) rfl ?_
                    show Steps p.tables e below (T43.setTop (mkF m 15 #[.val (.int i), .val .null, .val (.ref r), .val (.int (9 : Int32)), .val (.int (8 : Int32)), .val (.ref ad7)] [(.int (9 : Int32)), (.int (8 : Int32))])) _
                    refine XS.icmpNo X43.here hx rfl (own_hb hby d1_15) rfl (tlt (by decide : (8 : Int32) < (9 : Int32))).2.1 ?_
                    show Steps p.tables e below (T43.setTop (mkF m 18 #[.val (.int i), .val .null, .val (.ref r), .val (.int (9 : Int32)), .val (.int (8 : Int32)), .val (.ref ad7)] [])) _
                    refine XS.aloadN X43.here hx rfl (own_hb hby d1_18) rfl rfl ?_
                    show Steps p.tables e below (T43.setTop (mkF m 19 #[.val (.int i), .val .null, .val (.ref r), .val (.int (9 : Int32)), .val (.int (8 : Int32)), .val (.ref ad7)] [(.ref r)])) _
                    refine XS.iload X43.here hx rfl (own_hb hby d1_19) rfl ?_
                    exact kt
                  obtain ⟨cl45, Ar45, hin45, hat45⟩ := own_Ar.get (j := (8 : Int32)) (k := 8) pr1 ⟨rfl, by decide⟩
                  refine own_Go.of (S' := (T43.setTop (mkF m 26 #[.val (.int i), .val .null, .val (.ref r), .val (.int (9 : Int32)), .val (.int (8 : Int32)), .val (.ref ad8)] [(.ref ad8)]))) (fun t kt => ?_) ?_
                  · show Steps p.tables e below (T43.setTop (mkF m 21 #[.val (.int i), .val .null, .val (.ref r), .val (.int (9 : Int32)), .val (.int (8 : Int32)), .val (.ref ad7)] [(.int (8 : Int32)), (.ref r)])) _
                    refine X43.aaload hx (j := (8 : Int32)) (v := (.ref ad8)) (by rw [e43]; exact Ar45.1) (State.isArrayOf_alike hZ.alike Ar45.2.1) rfl Ar45.2.2 hin45 hat45 (g := (mkF m 21 #[.val (.int i), .val .null, .val (.ref r), .val (.int (9 : Int32)), .val (.int (8 : Int32)), .val (.ref ad7)] [(.int (8 : Int32)), (.ref r)])) rfl rfl (own_hb hby d1_21) _ ?_
                    show Steps p.tables e below (T43.setTop (mkF m 22 #[.val (.int i), .val .null, .val (.ref r), .val (.int (9 : Int32)), .val (.int (8 : Int32)), .val (.ref ad7)] [(.ref ad8)])) _
                    refine XS.astore X43.here hx rfl (own_hb hby d1_22) rfl rfl (l' := #[.val (.int i), .val .null, .val (.ref r), .val (.int (9 : Int32)), .val (.int (8 : Int32)), .val (.ref ad8)]) rfl ?_
                    show Steps p.tables e below (T43.setTop (mkF m 24 #[.val (.int i), .val .null, .val (.ref r), .val (.int (9 : Int32)), .val (.int (8 : Int32)), .val (.ref ad8)] [])) _
                    refine XS.aload X43.here hx rfl (own_hb hby d1_24) rfl rfl ?_
                    exact kt
                  obtain ⟨T46, X46, e46, st46⟩ := getF X43 hx hZ hown (host := "") (Or.inl (hw _ (List.mem_of_getElem? (i := 7) rfl))) Via.refl e43 pr10 (g := (mkF m 26 #[.val (.int i), .val .null, .val (.ref r), .val (.int (9 : Int32)), .val (.int (8 : Int32)), .val (.ref ad8)] [(.ref ad8)])) rfl rfl (own_hb hby d1_26)
                  refine own_Go.of (S' := (T46.setTop (mkF m 29 #[.val (.int i), .val .null, .val (.ref r), .val (.int (9 : Int32)), .val (.int (8 : Int32)), .val (.ref ad8)] [(.int (10 : Int32))]))) st46 ?_
                  refine own_Go.of (S' := (T46.setTop (mkF m 30 #[.val (.int i), .val .null, .val (.ref r), .val (.int (9 : Int32)), .val (.int (8 : Int32)), .val (.ref ad8)] [(.int i), (.int (10 : Int32))]))) (fun t kt => ?_) ?_
                  · show Steps p.tables e below (T46.setTop (mkF m 29 #[.val (.int i), .val .null, .val (.ref r), .val (.int (9 : Int32)), .val (.int (8 : Int32)), .val (.ref ad8)] [(.int (10 : Int32))])) _
                    refine XS.iloadN X46.here hx rfl (own_hb hby d1_29) rfl ?_
                    exact kt
                  by_cases hc30_47 : (10 : Int32) = i
                  · skip
                    refine own_Go.of (S' := (T46.setTop (mkF m 46 #[.val (.int i), .val (.ref ad8), .val (.ref r), .val (.int (9 : Int32)), .val (.int (8 : Int32)), .val (.ref ad8)] [(.ref ad8)]))) (fun t kt => ?_) ?_
                    · show Steps p.tables e below (T46.setTop (mkF m 30 #[.val (.int i), .val .null, .val (.ref r), .val (.int (9 : Int32)), .val (.int (8 : Int32)), .val (.ref ad8)] [(.int i), (.int (10 : Int32))])) _
                      refine XS.icmpNo X46.here hx rfl (own_hb hby d1_30) rfl (teq hc30_47).2 ?_
                      show Steps p.tables e below (T46.setTop (mkF m 33 #[.val (.int i), .val .null, .val (.ref r), .val (.int (9 : Int32)), .val (.int (8 : Int32)), .val (.ref ad8)] [])) _
                      refine XS.aload X46.here hx rfl (own_hb hby d1_33) rfl rfl ?_
                      show Steps p.tables e below (T46.setTop (mkF m 35 #[.val (.int i), .val .null, .val (.ref r), .val (.int (9 : Int32)), .val (.int (8 : Int32)), .val (.ref ad8)] [(.ref ad8)])) _
                      refine XS.astoreN X46.here hx rfl (own_hb hby d1_35) rfl rfl (l' := #[.val (.int i), .val (.ref ad8), .val (.ref r), .val (.int (9 : Int32)), .val (.int (8 : Int32)), .val (.ref ad8)]) rfl ?_
                      show Steps p.tables e below (T46.setTop (mkF m 36 #[.val (.int i), .val (.ref ad8), .val (.ref r), .val (.int (9 : Int32)), .val (.int (8 : Int32)), .val (.ref ad8)] [])) _
                      refine XS.goto X46.here hx rfl (pc0 := 36) (pc' := 45) rfl (own_hb hby d1_36) (by decide) (by decide) ?_
                      show Steps p.tables e below (T46.setTop (mkF m 45 #[.val (.int i), .val (.ref ad8), .val (.ref r), .val (.int (9 : Int32)), .val (.int (8 : Int32)), .val (.ref ad8)] [])) _
                      refine XS.aloadN X46.here hx rfl (own_hb hby d1_45) rfl rfl ?_
                      exact kt
                    exact own_retA X46 hx hlk hret rfl rfl (own_hb hby d1_46) e46 ⟨by unfold own_exp; rw [if_neg hc30_23, if_neg hc30_26, if_neg hc30_29, if_neg hc30_32, if_neg hc30_35, if_neg hc30_38, if_neg hc30_41, if_neg hc30_44, if_pos hc30_47], N0, rfl⟩ (by decide) (by decide)
                  · skip
                    refine own_Go.of (S' := (T46.setTop (mkF m 46 #[.val (.int i), .val .null, .val (.ref r), .val (.int (9 : Int32)), .val (.int (9 : Int32)), .val (.ref ad8)] [.null]))) (fun t kt => ?_) ?_
                    · show Steps p.tables e below (T46.setTop (mkF m 30 #[.val (.int i), .val .null, .val (.ref r), .val (.int (9 : Int32)), .val (.int (8 : Int32)), .val (.ref ad8)] [(.int i), (.int (10 : Int32))])) _
                      refine XS.icmpYes X46.here hx rfl (pc0 := 30) (pc' := 39) rfl (own_hb hby d1_30) rfl (feq hc30_47).2 (by decide) (by decide) ?_
                      show Steps p.tables e below (T46.setTop (mkF m 39 #[.val (.int i), .val .null, .val (.ref r), .val (.int (9 : Int32)), .val (.int (8 : Int32)), .val (.ref ad8)] [])) _
                      refine XS.iinc X46.here hx rfl (own_hb hby d1_39) rfl (l' := #[.val (.int i), .val .null, .val (.ref r), .val (.int (9 : Int32)), .val (.int (9 : Int32)), .val (.ref ad8)]) rfl ?_
                      show Steps p.tables e below (T46.setTop (mkF m 42 #[.val (.int i), .val .null, .val (.ref r), .val (.int (9 : Int32)), .val (.int (9 : Int32)), .val (.ref ad8)] [])) _
                      refine XS.goto X46.here hx rfl (pc0 := 42) (pc' := 12) rfl (own_hb hby d1_42) (by decide) (by decide) ?_
                      show Steps p.tables e below (T46.setTop (mkF m 12 #[.val (.int i), .val .null, .val (.ref r), .val (.int (9 : Int32)), .val (.int (9 : Int32)), .val (.ref ad8)] [])) _
                      refine XS.iload X46.here hx rfl (own_hb hby d1_12) rfl ?_
                      show Steps p.tables e below (T46.setTop (mkF m 14 #[.val (.int i), .val .null, .val (.ref r), .val (.int (9 : Int32)), .val (.int (9 : Int32)), .val (.ref ad8)] [(.int (9 : Int32))])) _
                      refine XS.iloadN X46.here hx rfl (own_hb hby d1_14) rfl ?_
                      show Steps p.tables e below (T46.setTop (mkF m 15 #[.val (.int i), .val .null, .val (.ref r), .val (.int (9 : Int32)), .val (.int (9 : Int32)), .val (.ref ad8)] [(.int (9 : Int32)), (.int (9 : Int32))])) _
                      refine XS.icmpYes X46.here hx rfl (pc0 := 15) (pc' := 45) rfl (own_hb hby d1_15) rfl (flt (by decide : ¬ ((9 : Int32) < (9 : Int32)))).2.1 (by decide) (by decide) ?_
                      show Steps p.tables e below (T46.setTop (mkF m 45 #[.val (.int i), .val .null, .val (.ref r), .val (.int (9 : Int32)), .val (.int (9 : Int32)), .val (.ref ad8)] [])) _
                      refine XS.aloadN X46.here hx rfl (own_hb hby d1_45) rfl rfl ?_
                      exact kt
                    exact own_retA X46 hx hlk hret rfl rfl (own_hb hby d1_46) e46 ⟨by unfold own_exp; rw [if_neg hc30_23, if_neg hc30_26, if_neg hc30_29, if_neg hc30_32, if_neg hc30_35, if_neg hc30_38, if_neg hc30_41, if_neg hc30_44, if_neg hc30_47], N0, rfl⟩ (by decide) (by decide)
theorem pn_0 : plainName "com/example/multiplex_framing/multiplexframing/wire/ControlFrameTypeForCodePinLaw" = true := by first | (simp [plainName, overriddenIn]; done) | decide +kernel
def Q_rm0 (Z : State) (p0 : Int32) (p1 : Int32) (r : Addr) (ad0 : Addr) (ad1 : Addr) (ad2 : Addr) (ad3 : Addr) (ad4 : Addr) (ad5 : Addr) (ad6 : Addr) (ad7 : Addr) (ad8 : Addr) (h0 : Heap) (n0 : Nat) (v : Option Value) (h : Heap) (L : List Loc) : Prop := v = some (.int (1 : Int32)) ∧ Fr n0 L
theorem pd_0 : parseMethodDescriptor "(I)Lcom/example/multiplex_framing/multiplexframing/wire/ControlFrameType;" = some ⟨[.int], some (.object "com/example/multiplex_framing/multiplexframing/wire/ControlFrameType")⟩ := by decide +kernel
set_option maxRecDepth 65536 in
set_option maxHeartbeats 40000000 in
theorem rm0 (l : Launch) (Z : State) (a0 : Array Value) (hw : ∀ d ∈ tables_1, d.before a0 Z = true) (ws : List Jvm.Cond) (p0 : Int32) (p1 : Int32) (r : Addr) (ad0 : Addr) (ad1 : Addr) (ad2 : Addr) (ad3 : Addr) (ad4 : Addr) (ad5 : Addr) (ad6 : Addr) (ad7 : Addr) (ad8 : Addr) (h0 : Heap) (n0 : Nat) (Z0 : n0 ≤ h0.size) (pr0 : Sta Z h0 "com/example/multiplex_framing/multiplexframing/wire/ControlFrameType" "ALL" "[Lcom/example/multiplex_framing/multiplexframing/wire/ControlFrameType;" (.ref r)) (pr1 : own_Ar Z h0 r (.object "com/example/multiplex_framing/multiplexframing/wire/ControlFrameType") 9 (own_rf ad0 ad1 ad2 ad3 ad4 ad5 ad6 ad7 ad8)) (pr2 : Sta Z h0 "com/example/multiplex_framing/multiplexframing/wire/ControlFrameType" "SYN_STREAM" "Lcom/example/multiplex_framing/multiplexframing/wire/ControlFrameType;" (.ref ad0)) (pr3 : Sta Z h0 "com/example/multiplex_framing/multiplexframing/wire/ControlFrameType" "SYN_REPLY" "Lcom/example/multiplex_framing/multiplexframing/wire/ControlFrameType;" (.ref ad1)) (pr4 : Sta Z h0 "com/example/multiplex_framing/multiplexframing/wire/ControlFrameType" "RST_STREAM" "Lcom/example/multiplex_framing/multiplexframing/wire/ControlFrameType;" (.ref ad2)) (pr5 : Sta Z h0 "com/example/multiplex_framing/multiplexframing/wire/ControlFrameType" "SETTINGS" "Lcom/example/multiplex_framing/multiplexframing/wire/ControlFrameType;" (.ref ad3)) (pr6 : Sta Z h0 "com/example/multiplex_framing/multiplexframing/wire/ControlFrameType" "PING" "Lcom/example/multiplex_framing/multiplexframing/wire/ControlFrameType;" (.ref ad4)) (pr7 : Sta Z h0 "com/example/multiplex_framing/multiplexframing/wire/ControlFrameType" "GOAWAY" "Lcom/example/multiplex_framing/multiplexframing/wire/ControlFrameType;" (.ref ad5)) (pr8 : Sta Z h0 "com/example/multiplex_framing/multiplexframing/wire/ControlFrameType" "HEADERS" "Lcom/example/multiplex_framing/multiplexframing/wire/ControlFrameType;" (.ref ad6)) (pr9 : Sta Z h0 "com/example/multiplex_framing/multiplexframing/wire/ControlFrameType" "WINDOW_UPDATE" "Lcom/example/multiplex_framing/multiplexframing/wire/ControlFrameType;" (.ref ad7)) (pr10 : Sta Z h0 "com/example/multiplex_framing/multiplexframing/wire/ControlFrameType" "CREDENTIAL" "Lcom/example/multiplex_framing/multiplexframing/wire/ControlFrameType;" (.ref ad8)) (pr11 : Fld Z h0 ad0 "com/example/multiplex_framing/multiplexframing/wire/ControlFrameType" "code" "I" (.int (1 : Int32))) (pr12 : Fld Z h0 ad1 "com/example/multiplex_framing/multiplexframing/wire/ControlFrameType" "code" "I" (.int (2 : Int32))) (pr13 : Fld Z h0 ad2 "com/example/multiplex_framing/multiplexframing/wire/ControlFrameType" "code" "I" (.int (3 : Int32))) (pr14 : Fld Z h0 ad3 "com/example/multiplex_framing/multiplexframing/wire/ControlFrameType" "code" "I" (.int (4 : Int32))) (pr15 : Fld Z h0 ad4 "com/example/multiplex_framing/multiplexframing/wire/ControlFrameType" "code" "I" (.int (6 : Int32))) (pr16 : Fld Z h0 ad5 "com/example/multiplex_framing/multiplexframing/wire/ControlFrameType" "code" "I" (.int (7 : Int32))) (pr17 : Fld Z h0 ad6 "com/example/multiplex_framing/multiplexframing/wire/ControlFrameType" "code" "I" (.int (8 : Int32))) (pr18 : Fld Z h0 ad7 "com/example/multiplex_framing/multiplexframing/wire/ControlFrameType" "code" "I" (.int (9 : Int32))) (pr19 : Fld Z h0 ad8 "com/example/multiplex_framing/multiplexframing/wire/ControlFrameType" "code" "I" (.int (10 : Int32))) :
    own_Met l Z h0 x code maxLocals ret ws room_1 #[(.int p0), (.int p1)] (Q_rm0 Z p0 p1 r ad0 ad1 ad2 ad3 ad4 ad5 ad6 ad7 ad8 h0 n0) := by
  refine own_enter (plainFor_of_name pn_0) ?_
  intro p e s m below meth c T0 X0 hx hby hml hret hlk hown hnm hZ e0
  have N0 := Fr.nil n0
  rw [show entryFrame m #[(.int p0), (.int p1)] maxLocals = (mkF m 0 #[.val (.int p0), .val (.int p1), .unset, .unset] []) from by first | rfl | simp [entryFrame, mkF, argsToLocals, Value.category, maxLocals]]
  refine own_Go.of (S' := (T0.setTop (mkF m 3 #[.val (.int p0), .val (.int p1), .unset, .unset] [(.int (p1 &&& (1 : Int32)))]))) (fun t kt => ?_) ?_
  · show Steps p.tables e below (T0.setTop (mkF m 0 #[.val (.int p0), .val (.int p1), .unset, .unset] [])) _
    refine XS.iloadN X0.here hx rfl (own_hb hby at_0) rfl ?_
    show Steps p.tables e below (T0.setTop (mkF m 1 #[.val (.int p0), .val (.int p1), .unset, .unset] [(.int p1)])) _
    refine XS.iconst X0.here hx rfl (own_hb hby at_1) ?_
    show Steps p.tables e below (T0.setTop (mkF m 2 #[.val (.int p0), .val (.int p1), .unset, .unset] [(.int (1 : Int32)), (.int p1)])) _
    refine XS.iand X0.here hx rfl (own_hb hby at_2) rfl ?_
    exact kt
  obtain ⟨v49, hd51, st50⟩ : ∃ v49 : Int32, ((v49 = (p0 &&& (15 : Int32)) ∧ (p1 &&& (1 : Int32)) = (0 : Int32)) ∨ (v49 = p0 ∧ ¬ ((p1 &&& (1 : Int32)) = (0 : Int32)))) ∧ ∀ t, Steps p.tables e below (T0.setTop (mkF m 14 #[.val (.int p0), .val (.int p1), .unset, .unset] [(.int v49)])) t → Steps p.tables e below (T0.setTop (mkF m 3 #[.val (.int p0), .val (.int p1), .unset, .unset] [(.int (p1 &&& (1 : Int32)))])) t := by
    by_cases hc3_48 : (p1 &&& (1 : Int32)) = (0 : Int32)
    · skip
      refine ⟨(p0 &&& (15 : Int32)), (Or.inl (⟨rfl, hc3_48⟩)), fun t kt => ?_⟩
      show Steps p.tables e below (T0.setTop (mkF m 3 #[.val (.int p0), .val (.int p1), .unset, .unset] [(.int (p1 &&& (1 : Int32)))])) _
      refine XS.ifYes X0.here hx rfl (pc0 := 3) (pc' := 10) rfl (own_hb hby at_3) rfl ((if0 _ _).trans (teq hc3_48).1) (by decide) (by decide) ?_
      show Steps p.tables e below (T0.setTop (mkF m 10 #[.val (.int p0), .val (.int p1), .unset, .unset] [])) _
      refine XS.iloadN X0.here hx rfl (own_hb hby at_10) rfl ?_
      show Steps p.tables e below (T0.setTop (mkF m 11 #[.val (.int p0), .val (.int p1), .unset, .unset] [(.int p0)])) _
      refine XS.bipush X0.here hx rfl (own_hb hby at_11) ?_
      show Steps p.tables e below (T0.setTop (mkF m 13 #[.val (.int p0), .val (.int p1), .unset, .unset] [(.int (15 : Int32)), (.int p0)])) _
      refine XS.iand X0.here hx rfl (own_hb hby at_13) rfl ?_
      exact kt
    · skip
      refine ⟨p0, (Or.inr (⟨rfl, hc3_48⟩)), fun t kt => ?_⟩
      show Steps p.tables e below (T0.setTop (mkF m 3 #[.val (.int p0), .val (.int p1), .unset, .unset] [(.int (p1 &&& (1 : Int32)))])) _
      refine XS.ifNo X0.here hx rfl (own_hb hby at_3) rfl ((if0 _ _).trans (feq hc3_48).1) ?_
      show Steps p.tables e below (T0.setTop (mkF m 6 #[.val (.int p0), .val (.int p1), .unset, .unset] [])) _
      refine XS.iloadN X0.here hx rfl (own_hb hby at_6) rfl ?_
      show Steps p.tables e below (T0.setTop (mkF m 7 #[.val (.int p0), .val (.int p1), .unset, .unset] [(.int p0)])) _
      refine XS.goto X0.here hx rfl (pc0 := 7) (pc' := 14) rfl (own_hb hby at_7) (by decide) (by decide) ?_
      exact kt
  refine own_Go.of (S' := (T0.setTop (mkF m 14 #[.val (.int p0), .val (.int p1), .unset, .unset] [(.int v49)]))) st50 ?_
  refine own_Go.of (S' := (T0.setTop (mkF m 16 #[.val (.int p0), .val (.int p1), .val (.int v49), .unset] [(.int v49)]))) (fun t kt => ?_) ?_
  · show Steps p.tables e below (T0.setTop (mkF m 14 #[.val (.int p0), .val (.int p1), .unset, .unset] [(.int v49)])) _
    refine XS.istoreN X0.here hx rfl (own_hb hby at_14) rfl (l' := #[.val (.int p0), .val (.int p1), .val (.int v49), .unset]) rfl ?_
    show Steps p.tables e below (T0.setTop (mkF m 15 #[.val (.int p0), .val (.int p1), .val (.int v49), .unset] [])) _
    refine XS.iloadN X0.here hx rfl (own_hb hby at_15) rfl ?_
    exact kt
  obtain ⟨_, _, ⟨T52, L52, k52, n52⟩, -, X52, ⟨Lc52, hQ52, l52, y52, z52⟩, st52⟩ := Jvm.LawKit.callS X0 hx (y := (⟨"com/example/multiplex_framing/multiplexframing/wire/ControlFrameType", "forCode", "(I)Lcom/example/multiplex_framing/multiplexframing/wire/ControlFrameType;"⟩ : MethodName)) hown (mvT hZ (hw _ (List.mem_of_getElem? (i := 0) rfl))) (mvT hZ (hw _ (List.mem_of_getElem? (i := 1) rfl))) (mvT hZ (hw _ (List.mem_of_getElem? (i := 2) rfl))) (mvT hZ (hw _ (List.mem_of_getElem? (i := 3) rfl))) (by decide) (backOf (W := 0) (rm1 l Z a0 hw [] v49 r ad0 ad1 ad2 ad3 ad4 ad5 ad6 ad7 ad8 h0 n0 Z0 pr0 pr1 pr11 pr12 pr13 pr14 pr15 pr16 pr17 pr18 pr19) hZ (hw _ (List.mem_of_getElem? (i := 3) rfl)) (hw _ (List.mem_of_getElem? (i := 2) rfl)) (by decide) (by decide)) (g := (mkF m 16 #[.val (.int p0), .val (.int p1), .val (.int v49), .unset] [(.int v49)])) rfl (by rw [hml]; rfl) (argsL := [(.int v49)]) (rest := []) (lenOf pd_0 rfl) rfl (by show 2 * 0 + _ ≤ _; exact Nat.le_of_eq rfl) (own_hb hby at_16) (fun _ _ => ⟨rfl, e0, (by decide : 0 + 0 ≤ _), (by decide : 0 + 0 ≤ _)⟩)
  dsimp only [Pt.U, Pt.locs, Pt.cells, Pt.slots] at X52 l52 y52 z52 st52 hQ52
  subst l52 y52 z52
  obtain ⟨rfl, N52q, hh52⟩ := hQ52
  have N52 := Fr.app N0 N52q
  refine own_Go.of (S' := (T52.setTop (mkF m 19 #[.val (.int p0), .val (.int p1), .val (.int v49), .unset] [(own_exp ad0 ad1 ad2 ad3 ad4 ad5 ad6 ad7 ad8 v49)]))) (fun t kt => st52 t kt) ?_
  rcases ref_cases ((own_exp_ref ad0 ad1 ad2 ad3 ad4 ad5 ad6 ad7 ad8 v49)) with hv | ⟨b, hv⟩
  · skip
    refine own_Go.of (S' := (T52.setTop (mkF m 22 #[.val (.int p0), .val (.int p1), .val (.int v49), .val .null] [(.int v49), .null]))) (fun t kt => ?_) ?_
    · show Steps p.tables e below (T52.setTop (mkF m 19 #[.val (.int p0), .val (.int p1), .val (.int v49), .unset] [(own_exp ad0 ad1 ad2 ad3 ad4 ad5 ad6 ad7 ad8 v49)])) _
      rw [hv]
      show Steps p.tables e below (T52.setTop (mkF m 19 #[.val (.int p0), .val (.int p1), .val (.int v49), .unset] [.null])) _
      refine XS.astoreN X52.here hx rfl (own_hb hby at_19) rfl rfl (l' := #[.val (.int p0), .val (.int p1), .val (.int v49), .val .null]) rfl ?_
      show Steps p.tables e below (T52.setTop (mkF m 20 #[.val (.int p0), .val (.int p1), .val (.int v49), .val .null] [])) _
      refine XS.aloadN X52.here hx rfl (own_hb hby at_20) rfl rfl ?_
      show Steps p.tables e below (T52.setTop (mkF m 21 #[.val (.int p0), .val (.int p1), .val (.int v49), .val .null] [.null])) _
      refine XS.iloadN X52.here hx rfl (own_hb hby at_21) rfl ?_
      exact kt
    obtain ⟨_, _, ⟨T53, L53, k53, n53⟩, -, X53, ⟨Lc53, hQ53, l53, y53, z53⟩, st53⟩ := Jvm.LawKit.callS X52 hx (y := (⟨"com/example/multiplex_framing/multiplexframing/wire/ControlFrameTypeForCodePinLaw", "expected", "(I)Lcom/example/multiplex_framing/multiplexframing/wire/ControlFrameType;"⟩ : MethodName)) hown (mvT hZ (hw _ (List.mem_of_getElem? (i := 17) rfl))) (mvT hZ (hw _ (List.mem_of_getElem? (i := 18) rfl))) (mvT hZ (hw _ (List.mem_of_getElem? (i := 19) rfl))) (mvT hZ (hw _ (List.mem_of_getElem? (i := 20) rfl))) (by decide) (backOf (W := 1) (rm2 l Z a0 hw [] v49 ad0 ad1 ad2 ad3 ad4 ad5 ad6 ad7 ad8 h0 n0 Z0 pr2 pr3 pr4 pr5 pr6 pr7 pr8 pr9 pr10) hZ (hw _ (List.mem_of_getElem? (i := 20) rfl)) (hw _ (List.mem_of_getElem? (i := 19) rfl)) (by decide) (by decide)) (g := (mkF m 22 #[.val (.int p0), .val (.int p1), .val (.int v49), .val .null] [(.int v49), .null])) rfl (by rw [hml]; rfl) (argsL := [(.int v49)]) (rest := [.null]) (lenOf pd_0 rfl) rfl (by show 2 * 0 + _ ≤ _; exact Nat.le_of_eq rfl) (own_hb hby at_22) (fun _ _ => ⟨rfl, hh52, (by decide : 0 + 0 ≤ _), (by decide : 0 + 0 ≤ _)⟩)
    dsimp only [Pt.U, Pt.locs, Pt.cells, Pt.slots] at X53 l53 y53 z53 st53 hQ53
    subst l53 y53 z53
    obtain ⟨rfl, N53q, hh53⟩ := hQ53
    have N53 := Fr.app N52 N53q
    refine own_Go.of (S' := (T53.setTop (mkF m 25 #[.val (.int p0), .val (.int p1), .val (.int v49), .val .null] [(own_exp ad0 ad1 ad2 ad3 ad4 ad5 ad6 ad7 ad8 v49), .null]))) (fun t kt => st53 t kt) ?_
    refine own_Go.of (S' := (T53.setTop (mkF m 33 #[.val (.int p0), .val (.int p1), .val (.int v49), .val .null] [(.int (1 : Int32))]))) (fun t kt => ?_) ?_
    · show Steps p.tables e below (T53.setTop (mkF m 25 #[.val (.int p0), .val (.int p1), .val (.int v49), .val .null] [(own_exp ad0 ad1 ad2 ad3 ad4 ad5 ad6 ad7 ad8 v49), .null])) _
      rw [hv]
      show Steps p.tables e below (T53.setTop (mkF m 25 #[.val (.int p0), .val (.int p1), .val (.int v49), .val .null] [.null, .null])) _
      refine Jvm.RoadKit.acmp (g := (mkF m 25 #[.val (.int p0), .val (.int p1), .val (.int v49), .val .null] [.null, .null])) X53 hx rfl rfl rfl (pc0 := 25) (pc' := 28) (same := true) rfl (own_hb hby at_25) rfl (decide_eq_true rfl) (by decide) (by decide) ?_
      show Steps p.tables e below (T53.setTop (mkF m 28 #[.val (.int p0), .val (.int p1), .val (.int v49), .val .null] [])) _
      refine XS.iconst X53.here hx rfl (own_hb hby at_28) ?_
      show Steps p.tables e below (T53.setTop (mkF m 29 #[.val (.int p0), .val (.int p1), .val (.int v49), .val .null] [(.int (1 : Int32))])) _
      refine XS.goto X53.here hx rfl (pc0 := 29) (pc' := 33) rfl (own_hb hby at_29) (by decide) (by decide) ?_
      exact kt
    exact own_retN X53 hx hlk (t := .boolean) hret (by simp) (own_hb hby at_33) hh53 ⟨rfl, N53⟩ (by decide) (by decide)
  · skip
    refine own_Go.of (S' := (T52.setTop (mkF m 22 #[.val (.int p0), .val (.int p1), .val (.int v49), .val (.ref b)] [(.int v49), (.ref b)]))) (fun t kt => ?_) ?_
    · show Steps p.tables e below (T52.setTop (mkF m 19 #[.val (.int p0), .val (.int p1), .val (.int v49), .unset] [(own_exp ad0 ad1 ad2 ad3 ad4 ad5 ad6 ad7 ad8 v49)])) _
      rw [hv]
      show Steps p.tables e below (T52.setTop (mkF m 19 #[.val (.int p0), .val (.int p1), .val (.int v49), .unset] [(.ref b)])) _
      refine XS.astoreN X52.here hx rfl (own_hb hby at_19) rfl rfl (l' := #[.val (.int p0), .val (.int p1), .val (.int v49), .val (.ref b)]) rfl ?_
      show Steps p.tables e below (T52.setTop (mkF m 20 #[.val (.int p0), .val (.int p1), .val (.int v49), .val (.ref b)] [])) _
      refine XS.aloadN X52.here hx rfl (own_hb hby at_20) rfl rfl ?_
      show Steps p.tables e below (T52.setTop (mkF m 21 #[.val (.int p0), .val (.int p1), .val (.int v49), .val (.ref b)] [(.ref b)])) _
      refine XS.iloadN X52.here hx rfl (own_hb hby at_21) rfl ?_
      exact kt
    obtain ⟨_, _, ⟨T54, L54, k54, n54⟩, -, X54, ⟨Lc54, hQ54, l54, y54, z54⟩, st54⟩ := Jvm.LawKit.callS X52 hx (y := (⟨"com/example/multiplex_framing/multiplexframing/wire/ControlFrameTypeForCodePinLaw", "expected", "(I)Lcom/example/multiplex_framing/multiplexframing/wire/ControlFrameType;"⟩ : MethodName)) hown (mvT hZ (hw _ (List.mem_of_getElem? (i := 17) rfl))) (mvT hZ (hw _ (List.mem_of_getElem? (i := 18) rfl))) (mvT hZ (hw _ (List.mem_of_getElem? (i := 19) rfl))) (mvT hZ (hw _ (List.mem_of_getElem? (i := 20) rfl))) (by decide) (backOf (W := 1) (rm2 l Z a0 hw [] v49 ad0 ad1 ad2 ad3 ad4 ad5 ad6 ad7 ad8 h0 n0 Z0 pr2 pr3 pr4 pr5 pr6 pr7 pr8 pr9 pr10) hZ (hw _ (List.mem_of_getElem? (i := 20) rfl)) (hw _ (List.mem_of_getElem? (i := 19) rfl)) (by decide) (by decide)) (g := (mkF m 22 #[.val (.int p0), .val (.int p1), .val (.int v49), .val (.ref b)] [(.int v49), (.ref b)])) rfl (by rw [hml]; rfl) (argsL := [(.int v49)]) (rest := [(.ref b)]) (lenOf pd_0 rfl) rfl (by show 2 * 0 + _ ≤ _; exact Nat.le_of_eq rfl) (own_hb hby at_22) (fun _ _ => ⟨rfl, hh52, (by decide : 0 + 0 ≤ _), (by decide : 0 + 0 ≤ _)⟩)
    dsimp only [Pt.U, Pt.locs, Pt.cells, Pt.slots] at X54 l54 y54 z54 st54 hQ54
    subst l54 y54 z54
    obtain ⟨rfl, N54q, hh54⟩ := hQ54
    have N54 := Fr.app N52 N54q
    refine own_Go.of (S' := (T54.setTop (mkF m 25 #[.val (.int p0), .val (.int p1), .val (.int v49), .val (.ref b)] [(own_exp ad0 ad1 ad2 ad3 ad4 ad5 ad6 ad7 ad8 v49), (.ref b)]))) (fun t kt => st54 t kt) ?_
    refine own_Go.of (S' := (T54.setTop (mkF m 33 #[.val (.int p0), .val (.int p1), .val (.int v49), .val (.ref b)] [(.int (1 : Int32))]))) (fun t kt => ?_) ?_
    · show Steps p.tables e below (T54.setTop (mkF m 25 #[.val (.int p0), .val (.int p1), .val (.int v49), .val (.ref b)] [(own_exp ad0 ad1 ad2 ad3 ad4 ad5 ad6 ad7 ad8 v49), (.ref b)])) _
      rw [hv]
      show Steps p.tables e below (T54.setTop (mkF m 25 #[.val (.int p0), .val (.int p1), .val (.int v49), .val (.ref b)] [(.ref b), (.ref b)])) _
      refine Jvm.RoadKit.acmp (g := (mkF m 25 #[.val (.int p0), .val (.int p1), .val (.int v49), .val (.ref b)] [(.ref b), (.ref b)])) X54 hx rfl rfl rfl (pc0 := 25) (pc' := 28) (same := true) rfl (own_hb hby at_25) rfl (decide_eq_true rfl) (by decide) (by decide) ?_
      show Steps p.tables e below (T54.setTop (mkF m 28 #[.val (.int p0), .val (.int p1), .val (.int v49), .val (.ref b)] [])) _
      refine XS.iconst X54.here hx rfl (own_hb hby at_28) ?_
      show Steps p.tables e below (T54.setTop (mkF m 29 #[.val (.int p0), .val (.int p1), .val (.int v49), .val (.ref b)] [(.int (1 : Int32))])) _
      refine XS.goto X54.here hx rfl (pc0 := 29) (pc' := 33) rfl (own_hb hby at_29) (by decide) (by decide) ?_
      exact kt
    exact own_retN X54 hx hlk (t := .boolean) hret (by simp) (own_hb hby at_33) hh54 ⟨rfl, N54⟩ (by decide) (by decide)
set_option maxRecDepth 65536 in
set_option maxHeartbeats 40000000 in
theorem comes_1 {Post : Tables → Env → Array Value → State → Outcome → State → Prop} (hpost : ∀ tb e args s v u, (limb_1_1.after args s (.returned v) u = true ∧ limb_1_2.after args s (.returned v) u = true ∧ True) → FrameEnd s (.returned v) u (Jvm.fieldLocs frame_1_writes args s ++ Jvm.arrayLocs frame_1_arrays args s ++ Jvm.staticLocs frame_1_statics s) 0 0 → Post tb e args s (.returned v) u) :
    ArmFor flags0 classFile x code maxLocals ret World_1 tables_1 room_1 Calls_1 rest_1 Pre_1 Post := by
  intro l hfl _ _ p e ha hc hk s m args below hf hA hF happ hP
  obtain ⟨hcalls, hrest, hpre⟩ := hP
  obtain ⟨-, -, -, hnamed, -, -, -, hat⟩ := (Spec.applies_iff hf).mp happ
  obtain ⟨hg, hn⟩ := and_e (Cond.before_iff.mp (show (Jvm.Cond.and given_1 narrow_1).before args s = true from hpre))
  obtain ⟨gc, gr0⟩ := and_e hg
  obtain ⟨ga0, gr1⟩ := and_e gr0
  obtain ⟨w0, w1, rfl⟩ : ∃ w0 w1 : Value, args = #[w0, w1] := by
    have hs : args.size = 2 := by simpa [Cond.value, given_1] using gc
    obtain ⟨L⟩ := args
    match L, hs with
    | [w0, w1], _ => exact ⟨w0, w1, rfl⟩
  have hw := fun d (hd : d ∈ tables_1) => atoms_spec (ws := Jvm.Cond.code x code maxLocals ret :: tables_1) hat d (List.mem_cons_of_mem _ hd)
  have hfit : Fit s := fun {y c} hc i hi => by
    obtain ⟨ha, rfl⟩ := Array.getElem?_eq_some_iff.mp hc
    have q := List.all_eq_true.mp ((Array.all_eq_true_iff_forall_mem.mp hF) _ (Array.getElem_mem ha)) i (List.mem_range.mpr hi)
    simpa [Array.getElem?_eq_getElem hi] using q
  obtain ⟨i0, ei0⟩ := is_v ga0
  obtain rfl : w0 = (.int i0) := Option.some.inj ei0
  obtain ⟨i1, ei1⟩ := is_v gr1
  obtain rfl : w1 = (.int i1) := Option.some.inj ei1
  obtain ⟨m1, hm1⟩ := and_e hn
  obtain ⟨m2, hm2⟩ := and_e hm1
  obtain ⟨x0, hx0⟩ := and_e hm2
  obtain ⟨y0, hy0⟩ := and_e hx0
  obtain ⟨z0, hq0⟩ := and_e hy0
  obtain ⟨x1, hx1⟩ := and_e hq0
  obtain ⟨y1, hy1⟩ := and_e hx1
  obtain ⟨z1, hq1⟩ := and_e hy1
  obtain ⟨x2, hx2⟩ := and_e hq1
  obtain ⟨y2, hy2⟩ := and_e hx2
  obtain ⟨z2, hq2⟩ := and_e hy2
  obtain ⟨x3, hx3⟩ := and_e hq2
  obtain ⟨y3, hy3⟩ := and_e hx3
  obtain ⟨z3, hq3⟩ := and_e hy3
  obtain ⟨x4, hx4⟩ := and_e hq3
  obtain ⟨y4, hy4⟩ := and_e hx4
  obtain ⟨z4, hq4⟩ := and_e hy4
  obtain ⟨x5, hx5⟩ := and_e hq4
  obtain ⟨y5, hy5⟩ := and_e hx5
  obtain ⟨z5, hq5⟩ := and_e hy5
  obtain ⟨x6, hx6⟩ := and_e hq5
  obtain ⟨y6, hy6⟩ := and_e hx6
  obtain ⟨z6, hq6⟩ := and_e hy6
  obtain ⟨x7, hx7⟩ := and_e hq6
  obtain ⟨y7, hy7⟩ := and_e hx7
  obtain ⟨z7, hq7⟩ := and_e hy7
  obtain ⟨x8, hx8⟩ := and_e hq7
  obtain ⟨y8, z8⟩ := and_e hx8
  obtain ⟨r, er⟩ := arr_v m1
  obtain ⟨cl, Ac⟩ := Arr.start er m1
  have Aa := Ac.fin (Vm.Alike.refl _)
  obtain ⟨hl1, hl2⟩ := own_lenv er Aa m2
  obtain ⟨ad0, ee0⟩ := exa_v x0
  have F0 := own_fldv ee0 z0
  have G0 := own_elv er ee0 Aa (by decide) y0
  obtain ⟨ad1, ee1⟩ := exa_v x1
  have F1 := own_fldv ee1 z1
  have G1 := own_elv er ee1 Aa (by decide) y1
  obtain ⟨ad2, ee2⟩ := exa_v x2
  have F2 := own_fldv ee2 z2
  have G2 := own_elv er ee2 Aa (by decide) y2
  obtain ⟨ad3, ee3⟩ := exa_v x3
  have F3 := own_fldv ee3 z3
  have G3 := own_elv er ee3 Aa (by decide) y3
  obtain ⟨ad4, ee4⟩ := exa_v x4
  have F4 := own_fldv ee4 z4
  have G4 := own_elv er ee4 Aa (by decide) y4
  obtain ⟨ad5, ee5⟩ := exa_v x5
  have F5 := own_fldv ee5 z5
  have G5 := own_elv er ee5 Aa (by decide) y5
  obtain ⟨ad6, ee6⟩ := exa_v x6
  have F6 := own_fldv ee6 z6
  have G6 := own_elv er ee6 Aa (by decide) y6
  obtain ⟨ad7, ee7⟩ := exa_v x7
  have F7 := own_fldv ee7 z7
  have G7 := own_elv er ee7 Aa (by decide) y7
  obtain ⟨ad8, ee8⟩ := exa_v x8
  have F8 := own_fldv ee8 z8
  have G8 := own_elv er ee8 Aa (by decide) y8
  have hsz : cl.slots.size = 9 := by
    have q := congrArg Int32.toInt hl2
    have q2 : (cl.slots.size.toInt32).toInt = (cl.slots.size : Int) := own_toInt hl1
    rw [q2] at q
    have e9 : (9 : Int32).toInt = 9 := rfl
    omega
  have Ar : own_Ar s s.heap r (.object "com/example/multiplex_framing/multiplexframing/wire/ControlFrameType") 9 (own_rf ad0 ad1 ad2 ad3 ad4 ad5 ad6 ad7 ad8) := ⟨by decide, cl, Ac, hsz, fun i hi => by
    match i, hi with
    | 0, _ => exact ⟨G0, rfl⟩
    | 1, _ => exact ⟨G1, rfl⟩
    | 2, _ => exact ⟨G2, rfl⟩
    | 3, _ => exact ⟨G3, rfl⟩
    | 4, _ => exact ⟨G4, rfl⟩
    | 5, _ => exact ⟨G5, rfl⟩
    | 6, _ => exact ⟨G6, rfl⟩
    | 7, _ => exact ⟨G7, rfl⟩
    | 8, _ => exact ⟨G8, rfl⟩
    | k + 9, q => omega⟩
  obtain ⟨n, o, h1, h2, h3, _, L, rfl, ⟨rfl, N⟩, hq⟩ := rm0 l s _ hw tables_1 i0 i1 r ad0 ad1 ad2 ad3 ad4 ad5 ad6 ad7 ad8 s.heap s.heap.size (Nat.le_refl _) (Sta.start er (Or.inr ⟨(hw _ (List.mem_of_getElem? (i := 2) rfl)), (hw _ (List.mem_of_getElem? (i := 5) rfl))⟩)) Ar (Sta.start ee0 (Or.inr ⟨(hw _ (List.mem_of_getElem? (i := 2) rfl)), (hw _ (List.mem_of_getElem? (i := 6) rfl))⟩)) (Sta.start ee1 (Or.inr ⟨(hw _ (List.mem_of_getElem? (i := 2) rfl)), (hw _ (List.mem_of_getElem? (i := 9) rfl))⟩)) (Sta.start ee2 (Or.inr ⟨(hw _ (List.mem_of_getElem? (i := 2) rfl)), (hw _ (List.mem_of_getElem? (i := 10) rfl))⟩)) (Sta.start ee3 (Or.inr ⟨(hw _ (List.mem_of_getElem? (i := 2) rfl)), (hw _ (List.mem_of_getElem? (i := 11) rfl))⟩)) (Sta.start ee4 (Or.inr ⟨(hw _ (List.mem_of_getElem? (i := 2) rfl)), (hw _ (List.mem_of_getElem? (i := 12) rfl))⟩)) (Sta.start ee5 (Or.inr ⟨(hw _ (List.mem_of_getElem? (i := 2) rfl)), (hw _ (List.mem_of_getElem? (i := 13) rfl))⟩)) (Sta.start ee6 (Or.inr ⟨(hw _ (List.mem_of_getElem? (i := 2) rfl)), (hw _ (List.mem_of_getElem? (i := 14) rfl))⟩)) (Sta.start ee7 (Or.inr ⟨(hw _ (List.mem_of_getElem? (i := 2) rfl)), (hw _ (List.mem_of_getElem? (i := 15) rfl))⟩)) (Sta.start ee8 (Or.inr ⟨(hw _ (List.mem_of_getElem? (i := 2) rfl)), (hw _ (List.mem_of_getElem? (i := 16) rfl))⟩)) F0 F1 F2 F3 F4 F5 F6 F7 F8 p e ha hc hk s m _ below hf ((Spec.applies_iff_loose hf).mp happ).1 ⟨rfl, State.Warmed39.refl s, rfl⟩ trivial
  refine ⟨n, _, h1, h2, h3, hpost _ _ _ _ _ _ ⟨Cond.after_iff.mpr rfl, Cond.after_iff.mpr (eq_i res_at (Term.int_eval (1)) rfl), trivial⟩ ⟨hq.1, hq.2.1, (hq.2.2.sift fun y hy => Or.inr (N y hy)).mono (by decide) (by decide)⟩⟩
theorem main_1_1 : Claimed_1_1 := comes_1 fun _ _ _ _ _ _ h hF => ⟨h.1, hF⟩
theorem main_1_2 : Claimed_1_2 := comes_1 fun _ _ _ _ _ _ h hF => ⟨h.2.1, hF⟩
end Jvm.Pilot.@@N@@
namespace Jvm.Pilot.@@N@@
open Jvm Jvm.ClassFile Sem Op Lib Jvm.Free Jvm.Stand Jvm.Pilot.@@N@@.Jvm.D
/-! MADE BY PROGRAM (witnessworld.py) out of the Statement's table words and the real class files: 13 classes; the members and pool entries that the words name. The judged class is class 1, her method 2. -/
namespace start1
open Jvm.ClassFile
def u (s : String) : CpInfo := .utf8 (stringToUtf16 s)
/-- a pool by its gaps: so many unusable entries, then the entry; so many at the end -/
def gap : Nat → List CpInfo → List CpInfo
  | 0, r => r
  | n + 1, r => .unusable :: gap n r
def poolList (es : List (Nat × CpInfo)) (last : Nat) : List CpInfo := es.foldr (fun e r => gap e.1 (e.2 :: r)) (gap last [])
def pool (es : List (Nat × CpInfo)) (last : Nat) : Array CpInfo := ⟨poolList es last⟩
def fileOf (pool : Array CpInfo) (this : Nat) (attrs : Array Attribute := #[]) (ms : Array MethodInfo := #[]) (fl : Nat := 33) (sup : Nat := 0) (ifs : Array Nat := #[]) (fds : Array FieldInfo := #[]) : ClassFile where
  minorVersion := 0
  majorVersion := 65
  constantPool := pool
  accessFlags := fl
  thisClass := this
  superClass := sup
  interfaces := ifs
  fields := fds
  methods := ms
  attributes := attrs
def plain (name : String) (sup : Option ClassId) : Class where
  name := name
  kind := .ordinary
  loader := none
  accessFlags := 33
  super := sup
  interfaces := #[]
  cf := none
  fields := #[]
  methods := #[]
  instanceTypes := #[]
  staticTypes := #[]
  resolved := #[]
  callSites := []
  init := .initialized
  statics := none
  mirror := none

def pool0 : Array CpInfo := pool [(5, u "<init>"), (0, u "()V"), (1, .class_ 10), (1, u "java/lang/Object")] 113

def k0m0 : Method := { name := "<init>", desc := "()V", sig := { parameters := [], returnType := none }, accessFlags := 1, code := none }
/-- java/lang/Object -/
def k0 : Class := { plain "java/lang/Object" none with
  accessFlags := 33
  interfaces := #[]
  cf := some (fileOf pool0 8 #[] #[{ accessFlags := 1, nameIndex := 5, descriptorIndex := 6, attributes := #[] }] 33 0 #[] #[])
  fields := #[]
  methods := #[k0m0]
  instanceTypes := #[]
  staticTypes := #[]
  resolved := Array.replicate 124 none
  statics := none }

def pool1 : Array CpInfo := pool [(2, .class_ 4), (1, u "java/lang/Object"), (0, u "<init>"), (0, u "()V"), (0, .fieldref 8 9), (0, .class_ 10), (0, .nameAndType 11 12), (0, u "com/example/multiplex_framing/multiplexframing/wire/ControlFrameType"), (0, u "SYN_STREAM"), (0, u "Lcom/example/multiplex_framing/multiplexframing/wire/ControlFrameType;"), (0, .fieldref 8 14), (0, .nameAndType 15 12), (0, u "SYN_REPLY"), (0, .fieldref 8 17), (0, .nameAndType 18 12), (0, u "RST_STREAM"), (0, .fieldref 8 20), (0, .nameAndType 21 12), (0, u "SETTINGS"), (0, .fieldref 8 23), (0, .nameAndType 24 12), (0, u "PING"), (0, .fieldref 8 26), (0, .nameAndType 27 12), (0, u "GOAWAY"), (0, .fieldref 8 29), (0, .nameAndType 30 12), (0, u "HEADERS"), (0, .fieldref 8 32), (0, .nameAndType 33 12), (0, u "WINDOW_UPDATE"), (0, .fieldref 8 35), (0, .nameAndType 36 12), (0, u "CREDENTIAL"), (0, .methodref 8 38), (0, .nameAndType 39 40), (0, u "forCode"), (0, u "(I)Lcom/example/multiplex_framing/multiplexframing/wire/ControlFrameType;"), (0, .methodref 42 43), (0, .class_ 44), (0, .nameAndType 45 40), (0, u "com/example/multiplex_framing/multiplexframing/wire/ControlFrameTypeForCodePinLaw"), (0, u "expected"), (3, u "law"), (0, u "(II)Z")] 2

def k1m0 : Method := { name := "<init>", desc := "()V", sig := { parameters := [], returnType := none }, accessFlags := 1, code := none }
def k1c1 : Code := { maxStack := 2, maxLocals := 1, code := method_2_code, exceptionTable := #[], attributes := #[] }
def k1m1 : Method := { name := "expected", desc := "(I)Lcom/example/multiplex_framing/multiplexframing/wire/ControlFrameType;", sig := { parameters := [.int], returnType := some (.object "com/example/multiplex_framing/multiplexframing/wire/ControlFrameType") }, accessFlags := 10, code := some k1c1 }
def k1c2 : Code := { maxStack := 2, maxLocals := 4, code := code, exceptionTable := #[], attributes := #[] }
def k1m2 : Method := { name := "law", desc := "(II)Z", sig := { parameters := [.int, .int], returnType := some .boolean }, accessFlags := 9, code := some k1c2 }
/-- com/example/multiplex_framing/multiplexframing/wire/ControlFrameTypeForCodePinLaw -/
def k1 : Class := { plain "com/example/multiplex_framing/multiplexframing/wire/ControlFrameTypeForCodePinLaw" (some 0) with
  accessFlags := 49
  interfaces := #[]
  cf := some (fileOf pool1 42 #[] #[{ accessFlags := 1, nameIndex := 5, descriptorIndex := 6, attributes := #[] }, { accessFlags := 10, nameIndex := 45, descriptorIndex := 40, attributes := #[] }, { accessFlags := 9, nameIndex := 49, descriptorIndex := 50, attributes := #[] }] 49 2 #[] #[])
  fields := #[]
  methods := #[k1m0, k1m1, k1m2]
  instanceTypes := #[]
  staticTypes := #[]
  resolved := Array.replicate 53 none
  statics := none }

def pool2 : Array CpInfo := pool [(1, .class_ 2), (0, u "java/lang/constant/Constable"), (0, .class_ 4), (0, u "java/lang/Object")] 6

/-- java/lang/constant/Constable -/
def k2 : Class := { plain "java/lang/constant/Constable" (some 0) with
  accessFlags := 1537
  interfaces := #[]
  cf := some (fileOf pool2 1 #[] #[] 1537 3 #[] #[])
  fields := #[]
  methods := #[]
  instanceTypes := #[]
  staticTypes := #[]
  resolved := Array.replicate 11 none
  statics := none }

def pool3 : Array CpInfo := pool [(1, .class_ 2), (0, u "java/lang/Comparable"), (0, .class_ 4), (0, u "java/lang/Object")] 7

/-- java/lang/Comparable -/
def k3 : Class := { plain "java/lang/Comparable" (some 0) with
  accessFlags := 1537
  interfaces := #[]
  cf := some (fileOf pool3 1 #[] #[] 1537 3 #[] #[])
  fields := #[]
  methods := #[]
  instanceTypes := #[]
  staticTypes := #[]
  resolved := Array.replicate 12 none
  statics := none }

def pool4 : Array CpInfo := pool [(1, .class_ 2), (0, u "java/io/Serializable"), (0, .class_ 4), (0, u "java/lang/Object")] 2

/-- java/io/Serializable -/
def k4 : Class := { plain "java/io/Serializable" (some 0) with
  accessFlags := 1537
  interfaces := #[]
  cf := some (fileOf pool4 1 #[] #[] 1537 3 #[] #[])
  fields := #[]
  methods := #[]
  instanceTypes := #[]
  staticTypes := #[]
  resolved := Array.replicate 7 none
  statics := none }

def pool5 : Array CpInfo := pool [(2, .class_ 4), (1, u "java/lang/Enum"), (0, u "name"), (0, u "Ljava/lang/String;"), (2, u "ordinal"), (0, u "I"), (1, .class_ 14), (1, u "java/lang/Object"), (4, u "hash"), (86, .class_ 108), (1, u "java/lang/Enum$EnumDesc"), (2, .class_ 112), (0, u "java/lang/constant/Constable"), (0, .class_ 114), (0, u "java/lang/Comparable"), (0, .class_ 116), (0, u "java/io/Serializable")] 87

/-- java/lang/Enum -/
def k5 : Class := { plain "java/lang/Enum" (some 0) with
  accessFlags := 1057
  interfaces := #[2, 3, 4]
  cf := some (fileOf pool5 2 #[.nestMembers #[106]] #[] 1057 12 #[111, 113, 115] #[{ accessFlags := 18, nameIndex := 5, descriptorIndex := 6, attributes := #[] }, { accessFlags := 18, nameIndex := 9, descriptorIndex := 10, attributes := #[] }, { accessFlags := 2, nameIndex := 19, descriptorIndex := 10, attributes := #[] }])
  fields := #[{ name := "name", type := (.object "java/lang/String"), accessFlags := 18, slot := 0, constantValue := 0 }, { name := "ordinal", type := .int, accessFlags := 18, slot := 1, constantValue := 0 }, { name := "hash", type := .int, accessFlags := 2, slot := 2, constantValue := 0 }]
  methods := #[]
  instanceTypes := #[(.object "java/lang/String"), .int, .int]
  staticTypes := #[]
  resolved := Array.replicate 204 none
  statics := none }

def pool6 : Array CpInfo := pool [(1, .class_ 2), (0, u "com/example/multiplex_framing/multiplexframing/wire/ControlFrameType"), (2, u "SYN_STREAM"), (0, u "Lcom/example/multiplex_framing/multiplexframing/wire/ControlFrameType;"), (2, u "SYN_REPLY"), (2, u "RST_STREAM"), (2, u "SETTINGS"), (2, u "PING"), (2, u "GOAWAY"), (2, u "HEADERS"), (2, u "WINDOW_UPDATE"), (2, u "CREDENTIAL"), (2, u "$VALUES"), (0, u "[Lcom/example/multiplex_framing/multiplexframing/wire/ControlFrameType;"), (6, .class_ 43), (1, u "java/lang/Enum"), (6, .fieldref 1 51), (0, .nameAndType 52 53), (0, u "code"), (0, u "I"), (2, u "fixedLength"), (0, .fieldref 1 58), (0, .nameAndType 59 34), (0, u "ALL"), (26, u "forCode"), (0, u "(I)Lcom/example/multiplex_framing/multiplexframing/wire/ControlFrameType;")] 6

def k6c0 : Code := { maxStack := 2, maxLocals := 6, code := prog_42_method_6_code, exceptionTable := #[], attributes := #[] }
def k6m0 : Method := { name := "forCode", desc := "(I)Lcom/example/multiplex_framing/multiplexframing/wire/ControlFrameType;", sig := { parameters := [.int], returnType := some (.object "com/example/multiplex_framing/multiplexframing/wire/ControlFrameType") }, accessFlags := 9, code := some k6c0 }
/-- com/example/multiplex_framing/multiplexframing/wire/ControlFrameType -/
def k6 : Class := { plain "com/example/multiplex_framing/multiplexframing/wire/ControlFrameType" (some 5) with
  accessFlags := 16433
  interfaces := #[]
  cf := some (fileOf pool6 1 #[] #[{ accessFlags := 9, nameIndex := 86, descriptorIndex := 87, attributes := #[] }] 16433 41 #[] #[{ accessFlags := 16409, nameIndex := 5, descriptorIndex := 6, attributes := #[] }, { accessFlags := 16409, nameIndex := 9, descriptorIndex := 6, attributes := #[] }, { accessFlags := 16409, nameIndex := 12, descriptorIndex := 6, attributes := #[] }, { accessFlags := 16409, nameIndex := 15, descriptorIndex := 6, attributes := #[] }, { accessFlags := 16409, nameIndex := 18, descriptorIndex := 6, attributes := #[] }, { accessFlags := 16409, nameIndex := 21, descriptorIndex := 6, attributes := #[] }, { accessFlags := 16409, nameIndex := 24, descriptorIndex := 6, attributes := #[] }, { accessFlags := 16409, nameIndex := 27, descriptorIndex := 6, attributes := #[] }, { accessFlags := 16409, nameIndex := 30, descriptorIndex := 6, attributes := #[] }, { accessFlags := 26, nameIndex := 59, descriptorIndex := 34, attributes := #[] }, { accessFlags := 18, nameIndex := 52, descriptorIndex := 53, attributes := #[] }, { accessFlags := 18, nameIndex := 56, descriptorIndex := 53, attributes := #[] }, { accessFlags := 4122, nameIndex := 33, descriptorIndex := 34, attributes := #[] }])
  fields := #[{ name := "SYN_STREAM", type := (.object "com/example/multiplex_framing/multiplexframing/wire/ControlFrameType"), accessFlags := 16409, slot := 0, constantValue := 0 }, { name := "SYN_REPLY", type := (.object "com/example/multiplex_framing/multiplexframing/wire/ControlFrameType"), accessFlags := 16409, slot := 1, constantValue := 0 }, { name := "RST_STREAM", type := (.object "com/example/multiplex_framing/multiplexframing/wire/ControlFrameType"), accessFlags := 16409, slot := 2, constantValue := 0 }, { name := "SETTINGS", type := (.object "com/example/multiplex_framing/multiplexframing/wire/ControlFrameType"), accessFlags := 16409, slot := 3, constantValue := 0 }, { name := "PING", type := (.object "com/example/multiplex_framing/multiplexframing/wire/ControlFrameType"), accessFlags := 16409, slot := 4, constantValue := 0 }, { name := "GOAWAY", type := (.object "com/example/multiplex_framing/multiplexframing/wire/ControlFrameType"), accessFlags := 16409, slot := 5, constantValue := 0 }, { name := "HEADERS", type := (.object "com/example/multiplex_framing/multiplexframing/wire/ControlFrameType"), accessFlags := 16409, slot := 6, constantValue := 0 }, { name := "WINDOW_UPDATE", type := (.object "com/example/multiplex_framing/multiplexframing/wire/ControlFrameType"), accessFlags := 16409, slot := 7, constantValue := 0 }, { name := "CREDENTIAL", type := (.object "com/example/multiplex_framing/multiplexframing/wire/ControlFrameType"), accessFlags := 16409, slot := 8, constantValue := 0 }, { name := "ALL", type := (.array (.object "com/example/multiplex_framing/multiplexframing/wire/ControlFrameType")), accessFlags := 26, slot := 9, constantValue := 0 }, { name := "code", type := .int, accessFlags := 18, slot := 3, constantValue := 0 }, { name := "fixedLength", type := .int, accessFlags := 18, slot := 4, constantValue := 0 }, { name := "$VALUES", type := (.array (.object "com/example/multiplex_framing/multiplexframing/wire/ControlFrameType")), accessFlags := 4122, slot := 10, constantValue := 0 }]
  methods := #[k6m0]
  instanceTypes := #[(.object "java/lang/String"), .int, .int, .int, .int]
  staticTypes := #[(.object "com/example/multiplex_framing/multiplexframing/wire/ControlFrameType"), (.object "com/example/multiplex_framing/multiplexframing/wire/ControlFrameType"), (.object "com/example/multiplex_framing/multiplexframing/wire/ControlFrameType"), (.object "com/example/multiplex_framing/multiplexframing/wire/ControlFrameType"), (.object "com/example/multiplex_framing/multiplexframing/wire/ControlFrameType"), (.object "com/example/multiplex_framing/multiplexframing/wire/ControlFrameType"), (.object "com/example/multiplex_framing/multiplexframing/wire/ControlFrameType"), (.object "com/example/multiplex_framing/multiplexframing/wire/ControlFrameType"), (.object "com/example/multiplex_framing/multiplexframing/wire/ControlFrameType"), (.array (.object "com/example/multiplex_framing/multiplexframing/wire/ControlFrameType")), (.array (.object "com/example/multiplex_framing/multiplexframing/wire/ControlFrameType"))]
  resolved := Array.replicate 94 none
  statics := some 0 }

def pool7 : Array CpInfo := pool [(1, u "java/lang/Cloneable"), (0, .class_ 1), (0, u "java/lang/Object"), (0, .class_ 3)] 3

/-- java/lang/Cloneable -/
def k7 : Class := { plain "java/lang/Cloneable" (some 0) with
  accessFlags := 1537
  interfaces := #[]
  cf := some (fileOf pool7 2 #[] #[] 1537 4 #[] #[])
  fields := #[]
  methods := #[]
  instanceTypes := #[]
  staticTypes := #[]
  resolved := Array.replicate 8 none
  statics := none }

/-- the primitive byte -/
def k8 : Class := { plain "byte" none with kind := .primitive 'B', accessFlags := 0x411 }
/-- [B -/
def k9 : Class := { plain "[B" (some 0) with kind := .array 8 .byte, interfaces := #[7, 4], accessFlags := 1041 }

/-- the primitive int -/
def k10 : Class := { plain "int" none with kind := .primitive 'I', accessFlags := 0x411 }
/-- [I -/
def k11 : Class := { plain "[I" (some 0) with kind := .array 10 .int, interfaces := #[7, 4], accessFlags := 1041 }

/-- [Lcom/example/multiplex_framing/multiplexframing/wire/ControlFrameType; -/
def k12 : Class := { plain "[Lcom/example/multiplex_framing/multiplexframing/wire/ControlFrameType;" (some 0) with kind := .array 6 (.object "com/example/multiplex_framing/multiplexframing/wire/ControlFrameType"), interfaces := #[7, 4], accessFlags := 1041 }

def heap : Heap := #[{ cls := 6, slots := #[.ref 2, .ref 3, .ref 4, .ref 5, .ref 6, .ref 7, .ref 8, .ref 9, .ref 10, .ref 1, .null], vm := .statics 6 },
  { cls := 12, slots := #[.ref 2, .ref 3, .ref 4, .ref 5, .ref 6, .ref 7, .ref 8, .ref 9, .ref 10], vm := .none },
  { cls := 6, slots := #[.null, .int 0, .int 0, .int 1, .int 0], vm := .none },
  { cls := 6, slots := #[.null, .int 1, .int 0, .int 2, .int 0], vm := .none },
  { cls := 6, slots := #[.null, .int 2, .int 0, .int 3, .int 0], vm := .none },
  { cls := 6, slots := #[.null, .int 3, .int 0, .int 4, .int 0], vm := .none },
  { cls := 6, slots := #[.null, .int 4, .int 0, .int 6, .int 0], vm := .none },
  { cls := 6, slots := #[.null, .int 5, .int 0, .int 7, .int 0], vm := .none },
  { cls := 6, slots := #[.null, .int 6, .int 0, .int 8, .int 0], vm := .none },
  { cls := 6, slots := #[.null, .int 7, .int 0, .int 9, .int 0], vm := .none },
  { cls := 6, slots := #[.null, .int 8, .int 0, .int 10, .int 0], vm := .none }]
def classes : Array Class := #[k0, k1, k2, k3, k4, k5, k6, k7, k8, k9, k10, k11, k12]
def interned : List (Array UInt16 × Addr) := []
def slotsUsed : Nat := 65
def theMethod : MethodId := ⟨1, 2⟩
def args0 : Array Value := #[.int 5, .int 3]
def aboutOver (below : List Frame) : State where
  vm := { classes := classes, interned := interned.toArray }
  heap := heap
  slotsUsed := slotsUsed
  threads := #[{ frames := .invoking theMethod args0 :: below }]
def below0 : List Frame := [.native { method := ⟨0, 0⟩, args := #[] }]
def about1 : State := aboutOver below0
def p0 : Program := .bare "" "" ""
def e0 : Env := launch0.env 0 0 0
theorem w_frames : about1.frames = Frame.invoking theMethod args0 :: below0 := rfl
set_option maxRecDepth 65536 in
theorem w_args : argsFit about1.vm theMethod args0 = true := by decide +kernel
set_option maxRecDepth 65536 in
theorem w_heap : heapFits about1 = true := by decide +kernel
set_option maxRecDepth 65536 in
theorem w_runnable : about1.curStatus? = some .runnable := by decide +kernel
set_option maxRecDepth 65536 in
theorem w_alone : about1.alone = true := by decide +kernel
set_option maxRecDepth 65536 in
theorem w_named : about1.methodNamed? x = some theMethod := by decide +kernel
set_option maxRecDepth 65536 in
theorem w_hears : about1.hears theMethod below0 = true := by decide +kernel
set_option maxRecDepth 65536 in
theorem w_ripe : about1.ripe theMethod args0 below0 = true := by decide +kernel
theorem w_running : about1.status = .running := rfl
set_option maxRecDepth 65536 in
theorem w_room : about1.hasRoom e0.platform room_1 = true :=
  launch0.hasRoom_least _ room_1 (by decide +kernel) (by decide +kernel) (by decide +kernel) (by decide +kernel) (by decide +kernel) (by decide +kernel)
theorem allAtoms_all (ts : List Jvm.Cond) (a : Array Jvm.Value) (st : Jvm.State) : (allAtoms ts).before a st = ts.all (fun c => c.before a st) := by
  induction ts with
  | nil => rfl
  | cons c t ih =>
    show (Jvm.Cond.and c (allAtoms t)).before a st = _
    rw [Jvm.Cond.before_and, ih, List.all_cons]
def words1 : List Jvm.Cond := Jvm.Cond.code x code maxLocals ret :: tables_1
/-- a 'code' word, met by the world's own term for the bytes: nothing is compared byte by byte -/
theorem code_word {y : MethodName} {bytes : ByteArray} {mx : Nat} {rt : Option FieldType} {a : Array Value} {s : State} {m : MethodId} {meth : Method} {c : Code} (h1 : s.methodNamed? y = some m) (h2 : s.vm.method? m = some meth) (h3 : meth.code = some c) (h4 : c.code = bytes)
    (h5 : (c.maxLocals == mx && c.exceptionTable.isEmpty && decide (c.maxStack ≤ mostOperands) && decide (meth.sig.returnType = rt) && !meth.locks && decide (parseMethodDescriptor y.desc = some meth.sig)) = true) : (Jvm.Cond.code y bytes mx rt).before a s = true := by
  simp only [Bool.and_eq_true, beq_iff_eq, Bool.not_eq_true', decide_eq_true_eq] at h5
  obtain ⟨⟨⟨⟨⟨g1, g2⟩, g3⟩, g4⟩, g5⟩, g6⟩ := h5
  simp [Cond.before, Cond.holds, Cond.value, h1, h2, h3, h4, g1, g2, g3, g4, g5, g6]
def isCode : Jvm.Cond → Bool
  | .code _ _ _ _ => true
  | _ => false
theorem all_split {L : List Jvm.Cond} {P : Jvm.Cond → Bool} (h1 : L.all (fun c => isCode c || P c) = true) (h2 : ∀ c ∈ L.filter isCode, P c = true) : L.all P = true := by
  refine List.all_eq_true.mpr fun c hc => ?_
  have h := List.all_eq_true.mp h1 c hc
  rcases Bool.eq_false_or_eq_true (isCode c) with hi | hi
  · exact h2 c (List.mem_filter.mpr ⟨hc, hi⟩)
  · simpa [hi] using h
set_option maxRecDepth 65536 in
theorem w_c0 : (Jvm.Cond.code x code maxLocals ret).before args0 about1 = true := code_word (m := ⟨1, 2⟩) (meth := k1m2) (c := k1c2) (by decide +kernel) rfl rfl rfl (by decide +kernel)
set_option maxRecDepth 65536 in
theorem w_c1 : (Jvm.Cond.code ({ cls := "com/example/multiplex_framing/multiplexframing/wire/ControlFrameType", name := "forCode", desc := "(I)Lcom/example/multiplex_framing/multiplexframing/wire/ControlFrameType;" } : Jvm.MethodName) prog_42_method_6_code (6 : Nat) (Option.some (Jvm.ClassFile.FieldType.object "com/example/multiplex_framing/multiplexframing/wire/ControlFrameType"))).before args0 about1 = true := code_word (m := ⟨6, 0⟩) (meth := k6m0) (c := k6c0) (by decide +kernel) rfl rfl rfl (by decide +kernel)
set_option maxRecDepth 65536 in
theorem w_c2 : (Jvm.Cond.code ({ cls := "com/example/multiplex_framing/multiplexframing/wire/ControlFrameTypeForCodePinLaw", name := "expected", desc := "(I)Lcom/example/multiplex_framing/multiplexframing/wire/ControlFrameType;" } : Jvm.MethodName) method_2_code (1 : Nat) (Option.some (Jvm.ClassFile.FieldType.object "com/example/multiplex_framing/multiplexframing/wire/ControlFrameType"))).before args0 about1 = true := code_word (m := ⟨1, 1⟩) (meth := k1m1) (c := k1c1) (by decide +kernel) rfl rfl rfl (by decide +kernel)
def codes1 : List Jvm.Cond := [Jvm.Cond.code x code maxLocals ret, Jvm.Cond.code ({ cls := "com/example/multiplex_framing/multiplexframing/wire/ControlFrameType", name := "forCode", desc := "(I)Lcom/example/multiplex_framing/multiplexframing/wire/ControlFrameType;" } : Jvm.MethodName) prog_42_method_6_code (6 : Nat) (Option.some (Jvm.ClassFile.FieldType.object "com/example/multiplex_framing/multiplexframing/wire/ControlFrameType")), Jvm.Cond.code ({ cls := "com/example/multiplex_framing/multiplexframing/wire/ControlFrameTypeForCodePinLaw", name := "expected", desc := "(I)Lcom/example/multiplex_framing/multiplexframing/wire/ControlFrameType;" } : Jvm.MethodName) method_2_code (1 : Nat) (Option.some (Jvm.ClassFile.FieldType.object "com/example/multiplex_framing/multiplexframing/wire/ControlFrameType"))]
set_option maxRecDepth 65536 in
theorem codes_eq : words1.filter isCode = codes1 := rfl
theorem w_codes : ∀ c ∈ words1.filter isCode, c.before args0 about1 = true := by
  rw [codes_eq]
  intro c hc
  simp only [codes1, List.mem_cons, List.not_mem_nil, or_false] at hc
  rcases hc with rfl | rfl | rfl
  · exact w_c0
  · exact w_c1
  · exact w_c2
set_option maxRecDepth 65536 in
theorem w_t1 : (words1.take 24).all (fun c => isCode c || c.before args0 about1) = true := by decide +kernel
set_option maxRecDepth 65536 in
theorem w_t2 : (words1.drop 24).all (fun c => isCode c || c.before args0 about1) = true := by decide +kernel
theorem w_tables : (allAtoms (Jvm.Cond.code x code maxLocals ret :: tables_1)).before args0 about1 = true := by
  rw [allAtoms_all]
  show words1.all (fun c => c.before args0 about1) = true
  refine all_split ?_ w_codes
  rw [← List.take_append_drop 24 words1, List.all_append, w_t1, w_t2]
  rfl
set_option maxRecDepth 65536 in
theorem w_case : (Jvm.Cond.and given_1 narrow_1).before args0 about1 = true := by decide +kernel
theorem w_applies : (headSpec (Jvm.Cond.code x code maxLocals ret :: tables_1) room_1).applies x e0.platform about1 = true :=
  (Spec.applies_iff w_frames).mpr ⟨w_running, w_runnable, w_alone, w_named, w_hears, w_ripe, w_room, w_tables⟩
theorem atStart : AtStart classFile x code maxLocals ret World_1 tables_1 room_1 Calls_1 rest_1 Pre_1 launch0 p0 e0 about1 theMethod args0 below0 :=
  ⟨lists_1, trivial, launch0.admits_env _ _ _, launch0.least_env, fairChoices_fair.cas, fairChoices_fair.clock, w_frames, w_args, w_heap, w_applies, trivial, trivial, w_case⟩
end start1
theorem witness_1 : WitnessClaimed_1 := ⟨start1.p0, start1.e0, start1.about1, start1.theMethod, start1.args0, start1.below0, start1.atStart⟩
end Jvm.Pilot.@@N@@
