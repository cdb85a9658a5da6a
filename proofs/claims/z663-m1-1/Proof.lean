import JvmDerived
import JvmDerived.Pilot.@@N@@Statement
import JvmDerived.Pilot.@@N@@Code
set_option linter.unusedVariables false
set_option linter.unusedSimpArgs false
namespace Jvm.Pilot.@@N@@
open Jvm Jvm.ClassFile Sem Op Lib Jvm.Free Jvm.Stand Jvm.LawKit Jvm.RoadKit Bundle Jvm.Pilot.@@N@@.Jvm.D
section Own
variable {p : Program} {l : Launch} {e : Env} {R : Room} {s : State} {m : MethodId} {args : Array Value} {below : List Frame} {meth : Method} {c : Code} {T : State} {locs : List Loc} {cells slots : Nat} {Z : State} {a0 : Array Value} {h h' : Heap}
theorem own_hb {c : ClassFile.Code} {code : ByteArray} (h : c.code = code) {pc : Nat} {r : Except ClassFile.DecodeError (ClassFile.Instr × Nat)} (h2 : ClassFile.decode code pc = r) : ClassFile.decode c.code pc = r := h ▸ h2
/-- from S the run comes to an end of the method of which QQ holds -/
def own_Go (p : Program) (e : Env) (below : List Frame) (S : State) (QQ : Outcome → State → Prop) : Prop :=
  ∃ s₂ o, Steps p.tables e below S s₂ ∧ s₂.status = .running ∧ Ended s₂ below o ∧ QQ o s₂
theorem own_Go.of {S S' : State} {QQ : Outcome → State → Prop} (h : ∀ t, Steps p.tables e below S' t → Steps p.tables e below S t) (g : own_Go p e below S' QQ) : own_Go p e below S QQ := by
  obtain ⟨a, b, h1, h2⟩ := g
  exact ⟨a, b, h _ h1, h2⟩
/-- how a walked body ends: it returns v, with Q of the value, the heap and the places written -/
def own_End (s : State) (Q : Option Value → Heap → List Loc → Prop) (C K : Nat) : Outcome → State → Prop :=
  fun o U' => ∃ v L, o = .returned v ∧ Q v U'.heap L ∧ FrameEnd s o U' L C K
/-- the contract of a body, as RoadKit.backOf takes it -/
abbrev own_Met (l : Launch) (Z : State) (h0 : Heap) (y : MethodName) (bytes : ByteArray) (maxL : Nat) (ret : Option FieldType) (ws : List Jvm.Cond) (rm : Room) (as' : Array Value) (Q : Option Value → Heap → List Loc → Prop) : Prop :=
  MetFree l y (head1 (Jvm.Cond.code y bytes maxL ret :: ws) rm) (fun a U => a = as' ∧ Z.Warmed39 U.vm ∧ U.heap = h0) (fun _ _ _ _ _ => True) (fun _ U o U' => ∃ v L, o = .returned v ∧ Q v U'.heap L ∧ FrameEnd U o U' L rm.cells rm.slots)
theorem own_enter {h0 : Heap} {y : MethodName} {bytes : ByteArray} {maxL : Nat} {ret : Option FieldType} {ws : List Jvm.Cond} {rm : Room} {as' : Array Value} {Q : Option Value → Heap → List Loc → Prop} (hpl : plainFor y = true)
    (body : ∀ (p : Program) (e : Env) (s : State) (m : MethodId) (below : List Frame) (meth : Method) (c : Code) (T0 : State), Stand p l e rm s m as' below meth c T0 [] 0 0 → p.tables.exec = Jvm.exec → c.code = bytes → c.maxLocals = maxL → meth.sig.returnType = ret → meth.locks = false → s.vm.findClass y.cls = some m.cls → meth.name = y.name → Z.Warmed39 s.vm → T0.heap = h0 →
      own_Go p e below (T0.setTop (entryFrame m as' maxL)) (own_End s Q rm.cells rm.slots)) : own_Met l Z h0 y bytes maxL ret ws rm as' Q := by
  refine MetFree.of_bodySF hpl hisR ?_
  intro p e s m args below meth c s₁ Bd hml0 hP hK
  obtain ⟨rfl, hZ, hh⟩ := hP
  exact body p e s m below meth c s₁ (Stand.of_body Bd) Bd.exec Bd.bytes hml0 Bd.returns Bd.notSynchronized (findClass_of_methodNamed Bd.named) (name_of_methodNamed Bd.named Bd.method).1 hZ (by rw [← hh, Bd.state]; rfl)
theorem own_mono (X : Stand p l e R s m args below meth c T locs cells slots) {c' k' : Nat} (hc : cells ≤ c') (hk : slots ≤ k') : Stand p l e R s m args below meth c T locs c' k' :=
  ⟨X.admits, X.cas, X.clock, X.frames, X.room, X.hears, X.method, X.code, X.here, X.tail, X.warmed, X.limits, X.bytes, X.same.mono hc hk⟩
theorem own_leave (X : Stand p l e R s m args below meth c T locs cells slots) (hlk : meth.locks = false) {v : Option Value} {Q : Option Value → Heap → List Loc → Prop} {C K : Nat} {g : JFrame} (hv : meth.sig.returnType = none → v = none)
    (st : ∀ fs, (∀ (f : JFrame) (acts : List Action), f.method = m → f.locked = none → f.entered = [] → (doReturn e (T.setTop f) acts v).1 = T.setFrames fs) → Steps p.tables e below (T.setTop g) (T.setFrames fs))
    (eT : T.heap = h) (hQ : Q v h locs) (hc : cells ≤ C) (hk : slots ≤ K) : own_Go p e below (T.setTop g) (own_End s Q C K) := by
  obtain ⟨fs, hr, hrun, hended, hW, hsame⟩ := X.leave (v := v) hv hlk
  subst eT
  exact ⟨_, _, st fs hr, hrun, hended, v, locs, rfl, hQ, ⟨_, rfl⟩, hW, hsame.mono hc hk⟩
theorem own_retI (X : Stand p l e R s m args below meth c T locs cells slots) (hx : p.tables.exec = Jvm.exec) (hlk : meth.locks = false) {pc : Nat} {Ls : Array Slot} {z : Int32} {rest : List Value} {Q : Option Value → Heap → List Loc → Prop} {C K : Nat} (hret : meth.sig.returnType = some .int) (hd : decode c.code pc = .ok (.ireturn, 1))
    (eT : T.heap = h) (hQ : Q (some (.int z)) h locs) (hc : cells ≤ C) (hk : slots ≤ K) : own_Go p e below (T.setTop (mkF m pc Ls (.int z :: rest))) (own_End s Q C K) := by
  refine own_leave X hlk (fun q => by rw [hret] at q; cases q) (fun fs hl => ?_) eT hQ hc hk
  have hm' : T.vm.method? m = some meth := X.method'
  have hn : narrow .int (.int z) = .int z := rfl
  show Steps p.tables e below (T.setTop { method := m, pc := pc, locals := Ls, stack := _ :: rest, locked := none }) _
  jvm_step X.here [X.here.top, hx, hd, hm', hret, hn]
  first | (intro acts; rw [hl _ acts rfl rfl rfl]) | rw [hl _ _ rfl rfl rfl]
  exact Steps.refl _
theorem own_retN (X : Stand p l e R s m args below meth c T locs cells slots) (hx : p.tables.exec = Jvm.exec) (hlk : meth.locks = false) {pc : Nat} {Ls : Array Slot} {z : Int32} {t : FieldType} {rest : List Value} {Q : Option Value → Heap → List Loc → Prop} {C K : Nat} (hret : meth.sig.returnType = some t) (ht : t = .boolean ∨ t = .byte ∨ t = .char ∨ t = .short) (hd : decode c.code pc = .ok (.ireturn, 1))
    (eT : T.heap = h) (hQ : Q (some (.int (nar t z))) h locs) (hc : cells ≤ C) (hk : slots ≤ K) : own_Go p e below (T.setTop (mkF m pc Ls (.int z :: rest))) (own_End s Q C K) :=
  own_leave X hlk (fun q => by rw [hret] at q; cases q) (fun fs hl => retN X hx hret ht hd hl) eT hQ hc hk
theorem own_retV (X : Stand p l e R s m args below meth c T locs cells slots) (hx : p.tables.exec = Jvm.exec) (hlk : meth.locks = false) {pc : Nat} {Ls : Array Slot} {Q : Option Value → Heap → List Loc → Prop} {C K : Nat} (hret : meth.sig.returnType = none) (hd : decode c.code pc = .ok (.return_, 1))
    (eT : T.heap = h) (hQ : Q none h locs) (hc : cells ≤ C) (hk : slots ≤ K) : own_Go p e below (T.setTop (mkF m pc Ls [])) (own_End s Q C K) :=
  own_leave X hlk (fun _ => rfl) (fun fs hl => X.returnOut hx hret hd hl) eT hQ hc hk
theorem own_retJ (X : Stand p l e R s m args below meth c T locs cells slots) (hx : p.tables.exec = Jvm.exec) (hlk : meth.locks = false) {pc : Nat} {Ls : Array Slot} {z : Int64} {Q : Option Value → Heap → List Loc → Prop} {C K : Nat} (hret : meth.sig.returnType = some .long) (hd : decode c.code pc = .ok (.lreturn, 1))
    (eT : T.heap = h) (hQ : Q (some (.long z)) h locs) (hc : cells ≤ C) (hk : slots ≤ K) : own_Go p e below (T.setTop (mkF m pc Ls [.long z])) (own_End s Q C K) :=
  own_leave X hlk (fun q => by rw [hret] at q; cases q) (fun fs hl => X.lreturnOut hx hret hd hl) eT hQ hc hk
theorem own_retA (X : Stand p l e R s m args below meth c T locs cells slots) (hx : p.tables.exec = Jvm.exec) (hlk : meth.locks = false) {pc : Nat} {Ls : Array Slot} {v : Value} {t : FieldType} {rest : List Value} {Q : Option Value → Heap → List Loc → Prop} {C K : Nat} (hret : meth.sig.returnType = some t) (ht : t.isReference = true) (hv : v.isRef = true) (hd : decode c.code pc = .ok (.areturn, 1))
    (eT : T.heap = h) (hQ : Q (some v) h locs) (hc : cells ≤ C) (hk : slots ≤ K) : own_Go p e below (T.setTop (mkF m pc Ls (v :: rest))) (own_End s Q C K) := by
  refine own_leave X hlk (fun q => by rw [hret] at q; cases q) (fun fs hl => ?_) eT hQ hc hk
  have hm' : T.vm.method? m = some meth := X.method'
  show Steps p.tables e below (T.setTop { method := m, pc := pc, locals := Ls, stack := _ :: rest, locked := none }) _
  jvm_step X.here [X.here.top, hx, hd, hm', hret, ht, hv]
  first | (intro acts; rw [hl _ acts rfl rfl rfl]) | rw [hl _ _ rfl rfl rfl]
  exact Steps.refl _
/-! an array whose place i holds f i -/
def own_Ar (Z : State) (h : Heap) (a : Addr) (ty : FieldType) (n : Nat) (f : Nat → Value) : Prop :=
  n < 2 ^ 31 ∧ ∃ c : Cell, Arr Z h a c ty ∧ c.slots.size = n ∧ ∀ i, i < n → c.slots[i]? = some (f i) ∧ fits ty (f i) = true
def own_up (f : Nat → Value) (k : Nat) (v : Value) : Nat → Value := fun i => if i = k then v else f i
def own_I (g : Nat → Int32) : Nat → Value := fun j => .int (g j)
def own_set (g : Nat → Int32) (k : Nat) (x : Int32) : Nat → Int32 := fun j => if j = k then x else g j
theorem own_upI {g : Nat → Int32} {k : Nat} {x : Int32} : own_up (own_I g) k (.int x) = own_I (own_set g k x) := by
  funext j
  unfold own_up own_I own_set
  by_cases q : j = k
  · rw [if_pos q, if_pos q]
  · rw [if_neg q, if_neg q]
section Arrays
variable {a b : Addr} {ty : FieldType} {n k : Nat} {f : Nat → Value} {v : Value} {ws : List Addr} {sl : Nat} {j : Int32}
theorem own_Ar.lt (F : own_Ar Z h a ty n f) : a < h.size := by obtain ⟨_, c, A, _⟩ := F; exact A.lt
theorem own_Ar.ext (F : own_Ar Z h a ty n f) (E : Ext h h') : own_Ar Z h' a ty n f := by obtain ⟨q, c, A, r⟩ := F; exact ⟨q, c, A.ext E, r⟩
theorem own_Ar.other (F : own_Ar Z h b ty n f) (W : Wr h h' a sl v) (q : b ≠ a) : own_Ar Z h' b ty n f := by obtain ⟨q0, c, A, r⟩ := F; exact ⟨q0, c, A.other W q, r⟩
theorem own_Ar.keep (F : own_Ar Z h a ty n f) (K : Keep h h' ws) (q : a ∉ ws) : own_Ar Z h' a ty n f := by obtain ⟨q0, c, A, r⟩ := F; exact ⟨q0, c, ⟨K.2.1 a c A.1 q, A.2⟩, r⟩
theorem own_Ar.eqv {g : Nat → Value} (F : own_Ar Z h a ty n f) (q : ∀ i, i < n → f i = g i) : own_Ar Z h a ty n g := by
  obtain ⟨q0, c, A, r1, r2⟩ := F; exact ⟨q0, c, A, r1, fun i hi => by rw [← q i hi]; exact r2 i hi⟩
theorem own_Ar.eqvI {g g' : Nat → Int32} (F : own_Ar Z h a ty n (own_I g)) (q : ∀ i, i < n → g i = g' i) : own_Ar Z h a ty n (own_I g') := F.eqv fun i hi => by show Value.int _ = Value.int _; rw [q i hi]
theorem own_clamp (hk : k < 2 ^ 31) : (Int32.ofNat k).toNatClampNeg = k ∧ ¬ Int32.ofNat k < 0 := by
  have e : (Int32.ofNat k).toInt = (k : Int) := Int32.toInt_ofNat_of_lt hk
  refine ⟨?_, ?_⟩
  · show (Int32.ofNat k).toInt.toNat = k
    rw [e]; rfl
  · rw [Int32.lt_iff_toInt_lt, e]
    show ¬ ((k : Int) < 0)
    omega
theorem own_inb {cl : Cell} (S : cl.slots.size = n) (hn : n < 2 ^ 31) (e : j = Int32.ofNat k) (hk : k < n) : ¬ (j < 0 ∨ cl.slots.size ≤ j.toNatClampNeg) := by
  subst e
  obtain ⟨e1, e2⟩ := own_clamp (k := k) (by omega)
  rw [e1, S]
  rintro (q | q)
  · exact e2 q
  · omega
theorem own_Ar.get (F : own_Ar Z h a ty n f) (q : j = Int32.ofNat k ∧ k < n) : ∃ cl : Cell, Arr Z h a cl ty ∧ ¬ (j < 0 ∨ cl.slots.size ≤ j.toNatClampNeg) ∧ cl.slots[j.toNatClampNeg]? = some (f k) := by
  obtain ⟨hn, c, A, S, H⟩ := F
  refine ⟨c, A, own_inb S hn q.1 q.2, ?_⟩
  rw [q.1, (own_clamp (k := k) (by omega)).1]
  exact (H k q.2).1
theorem own_Ar.len (F : own_Ar Z h a ty n f) : ∃ cl : Cell, Arr Z h a cl ty ∧ cl.slots.size.toInt32 = Int32.ofNat n := by
  obtain ⟨hn, c, A, S, H⟩ := F
  refine ⟨c, A, ?_⟩
  rw [S]
theorem own_Ar.put (F : own_Ar Z h a ty n f) (q : j = Int32.ofNat k ∧ k < n) : ∃ cl : Cell, Arr Z h a cl ty ∧ ¬ (j < 0 ∨ cl.slots.size ≤ j.toNatClampNeg) ∧ ∀ {v : Value} {h' : Heap}, fits ty v = true → Wr h h' a j.toNatClampNeg v → own_Ar Z h' a ty n (own_up f k v) := by
  obtain ⟨hn, c, A, S, H⟩ := F
  refine ⟨c, A, own_inb S hn q.1 q.2, fun {v h'} hv W => ⟨hn, _, A.same W, by rw [sz_set]; exact S, fun i hi => ?_⟩⟩
  rw [q.1, (own_clamp (k := k) (by omega)).1]
  by_cases u : i = k
  · subst u
    simp [own_up, Cell.setSlot, S, hi, hv]
  · have u' : ¬ k = i := fun z => u z.symm
    simp only [own_up, u, if_false, Cell.setSlot, Array.getElem?_setIfInBounds, u']
    exact H i hi
theorem own_newP (X : Stand p l e R s m args below meth c T locs cells slots) (hx : p.tables.exec = Jvm.exec) (hZ : Z.Warmed39 s.vm) {aty : ArrayType} (w : (Cond.arrayClass (newarray.typeOf aty)).before a0 Z = true) (eT : T.heap = h) {g : JFrame} (hg : g.method = m) (hd : decode c.code g.pc = .ok (.newarray aty, 2)) {z : Int32} {rest : List Value} (hs : g.stack = .int z :: rest)
    {n cap : Nat} (hz : z = Int32.ofNat n) (hn : n ≤ cap) (hb : cap * 8 ≤ 536870912) (hc : cells + 1 ≤ R.cells) (hl : slots + cap ≤ R.slots) :
    ∃ T' h', Stand p l e R s m args below meth c T' locs (cells + 1) (slots + cap) ∧ T'.heap = h' ∧ Ext h h' ∧ own_Ar Z h' h.size (newarray.typeOf aty) n (fun _ => defaultValue (newarray.typeOf aty)) ∧
      ∀ target, Steps p.tables e below (T'.setTop { g with pc := g.pc + 2, stack := .ref h.size :: rest }) target → Steps p.tables e below (T.setTop g) target := by
  obtain ⟨e1, e2⟩ := own_clamp (k := n) (by omega)
  subst hz
  obtain ⟨T', h', cA, X', e', E, A, st⟩ := newP X hx hZ w eT hg hd hs e2 (cap := cap) (by rw [e1]; exact hn) hb hc hl
  refine ⟨T', h', X', e', E, ⟨by omega, _, A, by rw [sz_new, e1], fun i hi => ⟨?_, by cases aty <;> rfl⟩⟩, st⟩
  simp [newA, e1, hi]
end Arrays
theorem own_st1 {l : Array Slot} {i : Nat} {v : Value} {o : Slot} (hold : l[i]? = some o) (ho : o = .unset ∨ ∃ w, o = .val w ∧ w.category = 1) (hv : v.category = 1) : storeLocals l i v = some (l.setIfInBounds i (.val v)) := XS.store1 hold ho hv
/-- the cell at x stands as it stood -/
def own_Kx (h h' : Heap) (x : Addr) : Prop := h.size ≤ h'.size ∧ ∀ c : Cell, h[x]? = some c → h'[x]? = some c
section Kx
variable {x a : Addr} {h2 : Heap} {sl : Nat} {v : Value} {ws : List Addr}
theorem own_Kx.refl : own_Kx h h x := ⟨Nat.le_refl _, fun _ q => q⟩
theorem own_Kx.ext (K : own_Kx h h' x) (E : Ext h' h2) : own_Kx h h2 x := ⟨Nat.le_trans K.1 E.1, fun c q => E.2 _ _ (K.2 c q)⟩
theorem own_Kx.keep (K : own_Kx h h' x) (K' : Keep h' h2 ws) (q : x ∉ ws) : own_Kx h h2 x := ⟨Nat.le_trans K.1 K'.1, fun c r => K'.2.1 _ _ (K.2 c r) q⟩
theorem own_Kx.wr (K : own_Kx h h' x) (W : Wr h' h2 a sl v) (q : x ≠ a) : own_Kx h h2 x := K.keep (Keep.of_wr W) (ninS q nin0)
theorem own_Kx.trans (K : own_Kx h h' x) (K' : own_Kx h' h2 x) : own_Kx h h2 x := ⟨Nat.le_trans K.1 K'.1, fun c r => K'.2 _ (K.2 c r)⟩
theorem own_Ar.kx {ty : FieldType} {n : Nat} {f : Nat → Value} (F : own_Ar Z h x ty n f) (K : own_Kx h h' x) : own_Ar Z h' x ty n f := by obtain ⟨q0, c, A, r⟩ := F; exact ⟨q0, c, ⟨K.2 c A.1, A.2⟩, r⟩
def own_Lt (h : Heap) (x : Addr) : Prop := x < h.size
theorem own_Lt.lt (q : own_Lt h x) : x < h.size := q
theorem own_Lt.ext (q : own_Lt h x) (E : Ext h h') : own_Lt h' x := Nat.lt_of_lt_of_le q E.1
theorem own_Lt.keep (q : own_Lt h x) (K : Keep h h' ws) : own_Lt h' x := Nat.lt_of_lt_of_le q K.1
theorem own_Lt.wr (q : own_Lt h x) (W : Wr h h' a sl v) : own_Lt h' x := q.keep (Keep.of_wr W)
theorem own_Lt.kx {y : Addr} (q : own_Lt h x) (K : own_Kx h h' y) : own_Lt h' x := Nat.lt_of_lt_of_le q K.1
end Kx
/-! numbers: small naturals as ints -/
theorem own_toInt {a : Nat} (ha : a < 2 ^ 31) : (Int32.ofNat a).toInt = (a : Int) := Int32.toInt_ofNat_of_lt ha
theorem own_mask (x : Int32) (m : Nat) : ∃ k : Nat, k ≤ m ∧ (x &&& Int32.ofNat m) = Int32.ofNat k := by
  refine ⟨(x.toBitVec.toNat &&& (m % 2 ^ 32)), Nat.le_trans Nat.and_le_right (Nat.mod_le _ _), ?_⟩
  apply Int32.toBitVec_inj.mp
  apply BitVec.eq_of_toNat_eq
  rw [Int32.toBitVec_and, BitVec.toNat_and]
  show _ &&& (BitVec.ofNat 32 m).toNat = (BitVec.ofNat 32 _).toNat
  rw [BitVec.toNat_ofNat, BitVec.toNat_ofNat]
  rw [Nat.mod_eq_of_lt (a := _ &&& _)]
  exact Nat.lt_of_le_of_lt Nat.and_le_right (Nat.mod_lt _ (by decide))
theorem own_ltN {a b : Nat} (ha : a < 2 ^ 31) (hb : b < 2 ^ 31) : Int32.ofNat a < Int32.ofNat b ↔ a < b := by
  rw [Int32.lt_iff_toInt_lt, own_toInt ha, own_toInt hb]; omega
theorem own_eqN' {a b : Nat} (h : a = b) : Int32.ofNat a = Int32.ofNat b := by rw [h]
theorem own_eqN {a b : Nat} (ha : a < 2 ^ 31) (hb : b < 2 ^ 31) : Int32.ofNat a = Int32.ofNat b ↔ a = b := by
  constructor
  · intro h
    have h2 := congrArg Int32.toInt h
    rw [own_toInt ha, own_toInt hb] at h2; omega
  · exact own_eqN'
theorem own_addN (a b : Nat) : Int32.ofNat a + Int32.ofNat b = Int32.ofNat (a + b) := (Int32.ofNat_add a b).symm
theorem own_subN {a b : Nat} (h : b ≤ a) : Int32.ofNat a - Int32.ofNat b = Int32.ofNat (a - b) := by
  have h2 : Int32.ofNat a = Int32.ofNat (a - b) + Int32.ofNat b := by rw [own_addN]; congr 1; omega
  rw [h2, Int32.add_sub_cancel]
theorem own_nzN {a : Nat} (h0 : 0 < a) (ha : a < 2 ^ 31) : Int32.ofNat a ≠ (0 : Int32) := by
  intro h
  have h2 : Int32.ofNat a = Int32.ofNat 0 := h
  rw [own_eqN ha (by decide)] at h2; omega
theorem own_remN {a b : Nat} (ha : a < 2 ^ 31) (hb : b < 2 ^ 31) : (Int32.ofNat a - (Int32.ofNat a / Int32.ofNat b) * Int32.ofNat b) = Int32.ofNat (a % b) := by
  apply Int32.toInt_inj.mp
  have hm : a % b < 2 ^ 31 := Nat.lt_of_le_of_lt (Nat.mod_le _ _) ha
  rw [rem_toInt, own_toInt ha, own_toInt hb, own_toInt hm]
  exact (Int.ofNat_tmod a b).symm
theorem own_bm (x : Int) (h1 : -2147483648 ≤ x) (h2 : x < 2147483648) : x.bmod (2 ^ 32) = x := Int.bmod_eq_of_le (by omega) (by omega)
theorem own_bm64 (x : Int) (h1 : -9223372036854775808 ≤ x) (h2 : x < 9223372036854775808) : x.bmod (2 ^ 64) = x := Int.bmod_eq_of_le (by omega) (by omega)
end Own

theorem own_divN {a b : Nat} (ha : a < 2 ^ 31) (hb : b < 2 ^ 31) : Int32.ofNat a / Int32.ofNat b = Int32.ofNat (a / b) := by
  apply Int32.toInt_inj.mp
  have hm : a / b < 2 ^ 31 := Nat.lt_of_le_of_lt (Nat.div_le_self _ _) ha
  have hp : (0 : Int) ≤ ((a / b : Nat) : Int) := Int.natCast_nonneg _
  rw [Int32.toInt_div, own_toInt ha, own_toInt hb, own_toInt hm, ← Int.ofNat_tdiv, own_bm ((a / b : Nat) : Int) (by omega) (by omega)]
def own_sh (d n i : Nat) : Nat := d / n + (if i < d % n then 1 else 0)
def own_g (d n i : Nat) : Int32 := Int32.ofNat (own_sh d n i)
def own_f (d n i j : Nat) : Int32 := if j < i then Int32.ofNat (own_sh d n j) else 0
theorem own_sh_le (d n i : Nat) (hn : 1 ≤ n) (hd : d < 2 ^ 31) : own_sh d n i < 2 ^ 31 := by
  unfold own_sh
  split
  · rename_i h
    have h1 : d / n * n + d % n = d := Nat.div_add_mod' d n
    have h2 : d / n ≤ d / n * n := Nat.le_mul_of_pos_right _ hn
    omega
  · have := Nat.div_le_self d n; omega
theorem own_turn {d n i : Nat} {v : Int32} (hd : (v = (1 : Int32) ∧ i < (d % n)) ∨ (v = (0 : Int32) ∧ ¬ (i < (d % n)))) (j : Nat) (hj : j < n) :
    own_set (own_f d n i) i ((Int32.ofNat (d / n)) + v) j = own_f d n (i + 1) j := by
  unfold own_set own_f
  by_cases h : j = i
  · subst h
    rw [if_pos rfl, if_pos (Nat.lt_succ_self _)]
    unfold own_sh
    rcases hd with ⟨rfl, q⟩ | ⟨rfl, q⟩
    · rw [if_pos q, ← own_addN]; rfl
    · rw [if_neg q, ← own_addN]; rfl
  · rw [if_neg h]
    by_cases h2 : j < i
    · rw [if_pos h2, if_pos (by omega)]
    · rw [if_neg h2, if_neg (by omega)]
theorem own_L {a : Nat} (ha : a < 2 ^ 31) : ((Int32.ofNat a).toInt64).toInt = (a : Int) := by rw [Int32.toInt_toInt64, own_toInt ha]
theorem own_nat {d n i : Nat} (hn : 1 ≤ n) (hi : i < n) : (d + n - 1 - i) / n = own_sh d n i := by
  have h1 : n * (d / n) + d % n = d := Nat.div_add_mod d n
  have hm : d % n < n := Nat.mod_lt _ hn
  have e : d + n - 1 - i = n * (d / n) + (d % n + n - 1 - i) := by omega
  rw [e, Nat.mul_add_div (by omega)]
  unfold own_sh
  congr 1
  split
  · rw [show d % n + n - 1 - i = n * 1 + (d % n - 1 - i) by omega, Nat.mul_add_div (by omega), Nat.div_eq_of_lt (by omega)]
  · exact Nat.div_eq_of_lt (by omega)
theorem own_final {d n i : Nat} (hd : d < 2 ^ 31) (hn : 1 ≤ n) (hn2 : n ≤ 16) (hi : i < n) :
    (Int32.ofNat (own_sh d n i)).toInt64 = (((((Int32.ofNat d).toInt64 + (Int32.ofNat n).toInt64) - (1 : Int64)) - (Int32.ofNat i).toInt64) / (Int32.ofNat n).toInt64) := by
  apply Int64.toInt_inj.mp
  have e1 : (1 : Int64).toInt = 1 := rfl
  have hs := own_sh_le d n i hn hd
  have hq : ((((Int32.ofNat d).toInt64 + (Int32.ofNat n).toInt64) - (1 : Int64)) - (Int32.ofNat i).toInt64).toInt = ((d + n - 1 - i : Nat) : Int) := by
    rw [Int64.toInt_sub, Int64.toInt_sub, Int64.toInt_add, own_L hd, own_L (a := n) (by omega), own_L (a := i) (by omega), e1]
    rw [own_bm64 ((d : Int) + n) (by omega) (by omega), own_bm64 ((d : Int) + n - 1) (by omega) (by omega), own_bm64 ((d : Int) + n - 1 - i) (by omega) (by omega)]
    omega
  rw [Int64.toInt_div, hq, own_L (a := n) (by omega), own_L hs, ← Int.ofNat_tdiv, own_nat hn hi, own_bm64 ((own_sh d n i : Nat) : Int) (by omega) (by omega)]
def Q_rm1 (Z : State) (d : Nat) (n : Nat) (h0 : Heap) (n0 : Nat) (v : Option Value) (h : Heap) (L : List Loc) : Prop := ∃ b : Addr, v = some (.ref b) ∧ Fr n0 L ∧ Keep h0 h [] ∧ (h0.size ≤ b) ∧ (own_Ar Z h b .int n (own_I (own_g d n)))
theorem d1_0 : decode prog_80_method_6_code 0 = .ok (.iload_n 1, 1) := by decide +kernel
theorem d1_1 : decode prog_80_method_6_code 1 = .ok (.newarray .int, 2) := by decide +kernel
theorem d1_3 : decode prog_80_method_6_code 3 = .ok (.astore_n 2, 1) := by decide +kernel
theorem d1_4 : decode prog_80_method_6_code 4 = .ok (.iconst 0, 1) := by decide +kernel
theorem d1_5 : decode prog_80_method_6_code 5 = .ok (.istore_n 3, 1) := by decide +kernel
theorem d1_6 : decode prog_80_method_6_code 6 = .ok (.iload_n 3, 1) := by decide +kernel
theorem d1_7 : decode prog_80_method_6_code 7 = .ok (.iload_n 1, 1) := by decide +kernel
theorem d1_8 : decode prog_80_method_6_code 8 = .ok (.if_icmp .ge 28, 3) := by decide +kernel
theorem d1_11 : decode prog_80_method_6_code 11 = .ok (.aload_n 2, 1) := by decide +kernel
theorem d1_12 : decode prog_80_method_6_code 12 = .ok (.iload_n 3, 1) := by decide +kernel
theorem d1_13 : decode prog_80_method_6_code 13 = .ok (.iload_n 0, 1) := by decide +kernel
theorem d1_14 : decode prog_80_method_6_code 14 = .ok (.iload_n 1, 1) := by decide +kernel
theorem d1_15 : decode prog_80_method_6_code 15 = .ok (.idiv, 1) := by decide +kernel
theorem d1_16 : decode prog_80_method_6_code 16 = .ok (.iload_n 3, 1) := by decide +kernel
theorem d1_17 : decode prog_80_method_6_code 17 = .ok (.iload_n 0, 1) := by decide +kernel
theorem d1_18 : decode prog_80_method_6_code 18 = .ok (.iload_n 1, 1) := by decide +kernel
theorem d1_19 : decode prog_80_method_6_code 19 = .ok (.irem, 1) := by decide +kernel
theorem d1_20 : decode prog_80_method_6_code 20 = .ok (.if_icmp .ge 7, 3) := by decide +kernel
theorem d1_23 : decode prog_80_method_6_code 23 = .ok (.iconst 1, 1) := by decide +kernel
theorem d1_24 : decode prog_80_method_6_code 24 = .ok (.goto 4, 3) := by decide +kernel
theorem d1_27 : decode prog_80_method_6_code 27 = .ok (.iconst 0, 1) := by decide +kernel
theorem d1_28 : decode prog_80_method_6_code 28 = .ok (.iadd, 1) := by decide +kernel
theorem d1_29 : decode prog_80_method_6_code 29 = .ok (.iastore, 1) := by decide +kernel
theorem d1_30 : decode prog_80_method_6_code 30 = .ok (.iinc 3 1, 3) := by decide +kernel
theorem d1_33 : decode prog_80_method_6_code 33 = .ok (.goto (-27), 3) := by decide +kernel
theorem d1_36 : decode prog_80_method_6_code 36 = .ok (.aload_n 2, 1) := by decide +kernel
theorem d1_37 : decode prog_80_method_6_code 37 = .ok (.areturn, 1) := by decide +kernel
theorem pn_1 : plainName "com/example/hearsay/hearsay/sim/Placement" = true := by first | (simp [plainName, overriddenIn]; done) | decide +kernel
set_option maxRecDepth 65536 in
set_option maxHeartbeats 40000000 in
theorem loop1 {p : Program} {l : Launch} {e : Env} {s : State} {m : MethodId} {below : List Frame} {meth : Method} {c : Code} {Z : State} {a0 : Array Value} (hw : ∀ d ∈ tables_1, d.before a0 Z = true) (hx : p.tables.exec = Jvm.exec) (hZ : Z.Warmed39 s.vm) (hby : c.code = prog_80_method_6_code) (hml : c.maxLocals = 4) (hret : meth.sig.returnType = some (.array .int)) (hlk : meth.locks = false) (hown : s.vm.findClass "com/example/hearsay/hearsay/sim/Placement" = some m.cls) (hnm : meth.name = "uniform") (d : Nat) (n : Nat) (h0 : Heap) (n0 : Nat) (b : Addr) (hd : d < 2 ^ 31) (hn1 : 1 ≤ n) (hn : n ≤ 16) (szb : h0.size ≤ b) (fi4 : n0 ≤ b) :
    ∀ (k : Nat) (i : Nat) {T1 : State} {h1 : Heap} {locs : List Loc}, Stand p l e ({ frames := 0, cells := 1, slots := 16, locals := 0 } : Room) s m #[(.int (Int32.ofNat d)), (.int (Int32.ofNat n))] below meth c T1 locs 1 16 → T1.heap = h1 → Fr n0 locs → n0 ≤ h1.size → (i + k = n) → (own_Ar Z h1 b .int n (own_I (own_f d n i))) → (Keep h0 h1 []) → 
    own_Go p e below (T1.setTop (mkF m 6 #[.val (.int (Int32.ofNat d)), .val (.int (Int32.ofNat n)), .val (.ref b), .val (.int (Int32.ofNat i))] [])) (own_End s (Q_rm1 Z d n h0 n0) ({ frames := 0, cells := 1, slots := 16, locals := 0 } : Room).cells ({ frames := 0, cells := 1, slots := 16, locals := 0 } : Room).slots) := by
  intro k
  induction k with
  | zero =>
    intro i T1 h1 locs X1 e1 N1 Z1 hik pr1 kp1
    refine own_Go.of (S' := (T1.setTop (mkF m 37 #[.val (.int (Int32.ofNat d)), .val (.int (Int32.ofNat n)), .val (.ref b), .val (.int (Int32.ofNat i))] [(.ref b)]))) (fun t kt => ?_) ?_
    · show Steps p.tables e below (T1.setTop (mkF m 6 #[.val (.int (Int32.ofNat d)), .val (.int (Int32.ofNat n)), .val (.ref b), .val (.int (Int32.ofNat i))] [])) _
      refine XS.iloadN X1.here hx rfl (own_hb hby d1_6) rfl ?_
      show Steps p.tables e below (T1.setTop (mkF m 7 #[.val (.int (Int32.ofNat d)), .val (.int (Int32.ofNat n)), .val (.ref b), .val (.int (Int32.ofNat i))] [(.int (Int32.ofNat i))])) _
      refine XS.iloadN X1.here hx rfl (own_hb hby d1_7) rfl ?_
      show Steps p.tables e below (T1.setTop (mkF m 8 #[.val (.int (Int32.ofNat d)), .val (.int (Int32.ofNat n)), .val (.ref b), .val (.int (Int32.ofNat i))] [(.int (Int32.ofNat n)), (.int (Int32.ofNat i))])) _
      refine XS.icmpYes X1.here hx rfl (pc0 := 8) (pc' := 36) rfl (own_hb hby d1_8) rfl (flt (fun q => by have h2 := (own_ltN (by omega) (by omega)).mp q; omega)).2.1 (by decide) (by decide) ?_
      show Steps p.tables e below (T1.setTop (mkF m 36 #[.val (.int (Int32.ofNat d)), .val (.int (Int32.ofNat n)), .val (.ref b), .val (.int (Int32.ofNat i))] [])) _
      refine XS.aloadN X1.here hx rfl (own_hb hby d1_36) rfl rfl ?_
      exact kt
    exact own_retA X1 hx hlk hret rfl rfl (own_hb hby d1_37) e1 ⟨b, rfl, N1, kp1, szb, pr1.eqvI (fun j hj => by unfold own_f own_g; rw [if_pos (by omega)])⟩ (by decide) (by decide)
  | succ k ih =>
    intro i T1 h1 locs X1 e1 N1 Z1 hik pr1 kp1
    have hmod : d % n < n := Nat.mod_lt _ hn1
    refine own_Go.of (S' := (T1.setTop (mkF m 20 #[.val (.int (Int32.ofNat d)), .val (.int (Int32.ofNat n)), .val (.ref b), .val (.int (Int32.ofNat i))] [(.int (Int32.ofNat (d % n))), (.int (Int32.ofNat i)), (.int (Int32.ofNat (d / n))), (.int (Int32.ofNat i)), (.ref b)]))) (fun t kt => ?_) ?_
    · show Steps p.tables e below (T1.setTop (mkF m 6 #[.val (.int (Int32.ofNat d)), .val (.int (Int32.ofNat n)), .val (.ref b), .val (.int (Int32.ofNat i))] [])) _
      refine XS.iloadN X1.here hx rfl (own_hb hby d1_6) rfl ?_
      show Steps p.tables e below (T1.setTop (mkF m 7 #[.val (.int (Int32.ofNat d)), .val (.int (Int32.ofNat n)), .val (.ref b), .val (.int (Int32.ofNat i))] [(.int (Int32.ofNat i))])) _
      refine XS.iloadN X1.here hx rfl (own_hb hby d1_7) rfl ?_
      show Steps p.tables e below (T1.setTop (mkF m 8 #[.val (.int (Int32.ofNat d)), .val (.int (Int32.ofNat n)), .val (.ref b), .val (.int (Int32.ofNat i))] [(.int (Int32.ofNat n)), (.int (Int32.ofNat i))])) _
      refine XS.icmpNo X1.here hx rfl (own_hb hby d1_8) rfl (tlt ((own_ltN (by omega) (by omega)).mpr (by omega))).2.1 ?_
      show Steps p.tables e below (T1.setTop (mkF m 11 #[.val (.int (Int32.ofNat d)), .val (.int (Int32.ofNat n)), .val (.ref b), .val (.int (Int32.ofNat i))] [])) _
      refine XS.aloadN X1.here hx rfl (own_hb hby d1_11) rfl rfl ?_
      show Steps p.tables e below (T1.setTop (mkF m 12 #[.val (.int (Int32.ofNat d)), .val (.int (Int32.ofNat n)), .val (.ref b), .val (.int (Int32.ofNat i))] [(.ref b)])) _
      refine XS.iloadN X1.here hx rfl (own_hb hby d1_12) rfl ?_
      show Steps p.tables e below (T1.setTop (mkF m 13 #[.val (.int (Int32.ofNat d)), .val (.int (Int32.ofNat n)), .val (.ref b), .val (.int (Int32.ofNat i))] [(.int (Int32.ofNat i)), (.ref b)])) _
      refine XS.iloadN X1.here hx rfl (own_hb hby d1_13) rfl ?_
      show Steps p.tables e below (T1.setTop (mkF m 14 #[.val (.int (Int32.ofNat d)), .val (.int (Int32.ofNat n)), .val (.ref b), .val (.int (Int32.ofNat i))] [(.int (Int32.ofNat d)), (.int (Int32.ofNat i)), (.ref b)])) _
      refine XS.iloadN X1.here hx rfl (own_hb hby d1_14) rfl ?_
      show Steps p.tables e below (T1.setTop (mkF m 15 #[.val (.int (Int32.ofNat d)), .val (.int (Int32.ofNat n)), .val (.ref b), .val (.int (Int32.ofNat i))] [(.int (Int32.ofNat n)), (.int (Int32.ofNat d)), (.int (Int32.ofNat i)), (.ref b)])) _
      refine XS.idiv X1.here hx rfl (own_hb hby d1_15) rfl (own_nzN (by omega) (by omega)) ?_
      show Steps p.tables e below (T1.setTop (mkF m 16 #[.val (.int (Int32.ofNat d)), .val (.int (Int32.ofNat n)), .val (.ref b), .val (.int (Int32.ofNat i))] [(.int ((Int32.ofNat d) / (Int32.ofNat n))), (.int (Int32.ofNat i)), (.ref b)])) _
      rw [own_divN (a := d) (b := n) hd (by omega)]
      show Steps p.tables e below (T1.setTop (mkF m 16 #[.val (.int (Int32.ofNat d)), .val (.int (Int32.ofNat n)), .val (.ref b), .val (.int (Int32.ofNat i))] [(.int (Int32.ofNat (d / n))), (.int (Int32.ofNat i)), (.ref b)])) _
      refine XS.iloadN X1.here hx rfl (own_hb hby d1_16) rfl ?_
      show Steps p.tables e below (T1.setTop (mkF m 17 #[.val (.int (Int32.ofNat d)), .val (.int (Int32.ofNat n)), .val (.ref b), .val (.int (Int32.ofNat i))] [(.int (Int32.ofNat i)), (.int (Int32.ofNat (d / n))), (.int (Int32.ofNat i)), (.ref b)])) _
      refine XS.iloadN X1.here hx rfl (own_hb hby d1_17) rfl ?_
      show Steps p.tables e below (T1.setTop (mkF m 18 #[.val (.int (Int32.ofNat d)), .val (.int (Int32.ofNat n)), .val (.ref b), .val (.int (Int32.ofNat i))] [(.int (Int32.ofNat d)), (.int (Int32.ofNat i)), (.int (Int32.ofNat (d / n))), (.int (Int32.ofNat i)), (.ref b)])) _
      refine XS.iloadN X1.here hx rfl (own_hb hby d1_18) rfl ?_
      show Steps p.tables e below (T1.setTop (mkF m 19 #[.val (.int (Int32.ofNat d)), .val (.int (Int32.ofNat n)), .val (.ref b), .val (.int (Int32.ofNat i))] [(.int (Int32.ofNat n)), (.int (Int32.ofNat d)), (.int (Int32.ofNat i)), (.int (Int32.ofNat (d / n))), (.int (Int32.ofNat i)), (.ref b)])) _
      refine XS.irem X1.here hx rfl (own_hb hby d1_19) rfl (own_nzN (by omega) (by omega)) ?_
      show Steps p.tables e below (T1.setTop (mkF m 20 #[.val (.int (Int32.ofNat d)), .val (.int (Int32.ofNat n)), .val (.ref b), .val (.int (Int32.ofNat i))] [(.int ((Int32.ofNat d) - ((Int32.ofNat d) / (Int32.ofNat n)) * (Int32.ofNat n))), (.int (Int32.ofNat i)), (.int (Int32.ofNat (d / n))), (.int (Int32.ofNat i)), (.ref b)])) _
      rw [own_remN (a := d) (b := n) hd (by omega)]
      exact kt
    obtain ⟨v2, hd4, st3⟩ : ∃ v2 : Int32, ((v2 = (1 : Int32) ∧ i < (d % n)) ∨ (v2 = (0 : Int32) ∧ ¬ (i < (d % n)))) ∧ ∀ t, Steps p.tables e below (T1.setTop (mkF m 28 #[.val (.int (Int32.ofNat d)), .val (.int (Int32.ofNat n)), .val (.ref b), .val (.int (Int32.ofNat i))] [(.int v2), (.int (Int32.ofNat (d / n))), (.int (Int32.ofNat i)), (.ref b)])) t → Steps p.tables e below (T1.setTop (mkF m 20 #[.val (.int (Int32.ofNat d)), .val (.int (Int32.ofNat n)), .val (.ref b), .val (.int (Int32.ofNat i))] [(.int (Int32.ofNat (d % n))), (.int (Int32.ofNat i)), (.int (Int32.ofNat (d / n))), (.int (Int32.ofNat i)), (.ref b)])) t := by
      by_cases hc20_1 : i < (d % n)
      · skip
        refine ⟨(1 : Int32), (Or.inl (⟨rfl, hc20_1⟩)), fun t kt => ?_⟩
        show Steps p.tables e below (T1.setTop (mkF m 20 #[.val (.int (Int32.ofNat d)), .val (.int (Int32.ofNat n)), .val (.ref b), .val (.int (Int32.ofNat i))] [(.int (Int32.ofNat (d % n))), (.int (Int32.ofNat i)), (.int (Int32.ofNat (d / n))), (.int (Int32.ofNat i)), (.ref b)])) _
        refine XS.icmpNo X1.here hx rfl (own_hb hby d1_20) rfl (tlt ((own_ltN (by omega) (by omega)).mpr hc20_1)).2.1 ?_
        show Steps p.tables e below (T1.setTop (mkF m 23 #[.val (.int (Int32.ofNat d)), .val (.int (Int32.ofNat n)), .val (.ref b), .val (.int (Int32.ofNat i))] [(.int (Int32.ofNat (d / n))), (.int (Int32.ofNat i)), (.ref b)])) _
        refine XS.iconst X1.here hx rfl (own_hb hby d1_23) ?_
        show Steps p.tables e below (T1.setTop (mkF m 24 #[.val (.int (Int32.ofNat d)), .val (.int (Int32.ofNat n)), .val (.ref b), .val (.int (Int32.ofNat i))] [(.int (1 : Int32)), (.int (Int32.ofNat (d / n))), (.int (Int32.ofNat i)), (.ref b)])) _
        refine XS.goto X1.here hx rfl (pc0 := 24) (pc' := 28) rfl (own_hb hby d1_24) (by decide) (by decide) ?_
        exact kt
      · skip
        refine ⟨(0 : Int32), (Or.inr (⟨rfl, hc20_1⟩)), fun t kt => ?_⟩
        show Steps p.tables e below (T1.setTop (mkF m 20 #[.val (.int (Int32.ofNat d)), .val (.int (Int32.ofNat n)), .val (.ref b), .val (.int (Int32.ofNat i))] [(.int (Int32.ofNat (d % n))), (.int (Int32.ofNat i)), (.int (Int32.ofNat (d / n))), (.int (Int32.ofNat i)), (.ref b)])) _
        refine XS.icmpYes X1.here hx rfl (pc0 := 20) (pc' := 27) rfl (own_hb hby d1_20) rfl (flt (fun q => hc20_1 ((own_ltN (by omega) (by omega)).mp q))).2.1 (by decide) (by decide) ?_
        show Steps p.tables e below (T1.setTop (mkF m 27 #[.val (.int (Int32.ofNat d)), .val (.int (Int32.ofNat n)), .val (.ref b), .val (.int (Int32.ofNat i))] [(.int (Int32.ofNat (d / n))), (.int (Int32.ofNat i)), (.ref b)])) _
        refine XS.iconst X1.here hx rfl (own_hb hby d1_27) ?_
        exact kt
    refine own_Go.of (S' := (T1.setTop (mkF m 28 #[.val (.int (Int32.ofNat d)), .val (.int (Int32.ofNat n)), .val (.ref b), .val (.int (Int32.ofNat i))] [(.int v2), (.int (Int32.ofNat (d / n))), (.int (Int32.ofNat i)), (.ref b)]))) st3 ?_
    refine own_Go.of (S' := (T1.setTop (mkF m 29 #[.val (.int (Int32.ofNat d)), .val (.int (Int32.ofNat n)), .val (.ref b), .val (.int (Int32.ofNat i))] [(.int ((Int32.ofNat (d / n)) + v2)), (.int (Int32.ofNat i)), (.ref b)]))) (fun t kt => ?_) ?_
    · show Steps p.tables e below (T1.setTop (mkF m 28 #[.val (.int (Int32.ofNat d)), .val (.int (Int32.ofNat n)), .val (.ref b), .val (.int (Int32.ofNat i))] [(.int v2), (.int (Int32.ofNat (d / n))), (.int (Int32.ofNat i)), (.ref b)])) _
      refine XS.iadd X1.here hx rfl (own_hb hby d1_28) rfl ?_
      exact kt
    obtain ⟨cl5, Ar5, hin5, ub5⟩ := own_Ar.put (j := (Int32.ofNat i)) (k := i) pr1 ⟨rfl, by omega⟩
    obtain ⟨T5, h5, X5, e5, W5, st5⟩ := stI X1 hx hZ e1 Ar5 (j := (Int32.ofNat i)) hin5 (g := (mkF m 29 #[.val (.int (Int32.ofNat d)), .val (.int (Int32.ofNat n)), .val (.ref b), .val (.int (Int32.ofNat i))] [(.int ((Int32.ofNat (d / n)) + v2)), (.int (Int32.ofNat i)), (.ref b)])) rfl rfl (own_hb hby d1_29)
    refine own_Go.of (S' := (T5.setTop (mkF m 30 #[.val (.int (Int32.ofNat d)), .val (.int (Int32.ofNat n)), .val (.ref b), .val (.int (Int32.ofNat i))] []))) st5 ?_
    have z6 : n0 ≤ h5.size := Nat.le_trans Z1 (Keep.of_wr W5).1
    have kp7 : Keep h0 h5 [] := kp1.wr W5 (Or.inr szb)
    have f8 : own_Ar Z h5 b .int n (own_I (own_set (own_f d n i) i ((Int32.ofNat (d / n)) + v2))) := by rw [← own_upI]; exact ub5 rfl W5
    have N5 := Fr.snoc X5 N1 fi4
    refine own_Go.of (S' := (T5.setTop (mkF m 6 #[.val (.int (Int32.ofNat d)), .val (.int (Int32.ofNat n)), .val (.ref b), .val (.int ((Int32.ofNat i) + (1 : Int32)))] []))) (fun t kt => ?_) ?_
    · show Steps p.tables e below (T5.setTop (mkF m 30 #[.val (.int (Int32.ofNat d)), .val (.int (Int32.ofNat n)), .val (.ref b), .val (.int (Int32.ofNat i))] [])) _
      refine XS.iinc X5.here hx rfl (own_hb hby d1_30) rfl (l' := #[.val (.int (Int32.ofNat d)), .val (.int (Int32.ofNat n)), .val (.ref b), .val (.int ((Int32.ofNat i) + (1 : Int32)))]) rfl ?_
      show Steps p.tables e below (T5.setTop (mkF m 33 #[.val (.int (Int32.ofNat d)), .val (.int (Int32.ofNat n)), .val (.ref b), .val (.int ((Int32.ofNat i) + (1 : Int32)))] [])) _
      refine XS.goto X5.here hx rfl (pc0 := 33) (pc' := 6) rfl (own_hb hby d1_33) (by decide) (by decide) ?_
      exact kt
    refine own_Go.of (S' := (T5.setTop (mkF m 6 #[.val (.int (Int32.ofNat d)), .val (.int (Int32.ofNat n)), .val (.ref b), .val (.int (Int32.ofNat (i + 1)))] []))) (fun t kt => ?_) ?_
    · show Steps p.tables e below (T5.setTop (mkF m 6 #[.val (.int (Int32.ofNat d)), .val (.int (Int32.ofNat n)), .val (.ref b), .val (.int ((Int32.ofNat i) + (1 : Int32)))] [])) _
      rw [show Int32.ofNat i + (1 : Int32) = Int32.ofNat (i + 1) from own_addN i 1]
      exact kt
    exact ih (i + 1) X5 e5 N5 z6 (by omega) (f8.eqvI (fun j hj => own_turn hd4 j hj)) kp7
set_option maxRecDepth 65536 in
set_option maxHeartbeats 40000000 in
theorem rm1 (l : Launch) (Z : State) (a0 : Array Value) (hw : ∀ d ∈ tables_1, d.before a0 Z = true) (ws : List Jvm.Cond) (d : Nat) (n : Nat) (h0 : Heap) (n0 : Nat) (Z0 : n0 ≤ h0.size) (hd : d < 2 ^ 31) (hn1 : 1 ≤ n) (hn : n ≤ 16) :
    own_Met l Z h0 (⟨"com/example/hearsay/hearsay/sim/Placement", "uniform", "(II)[I"⟩ : MethodName) prog_80_method_6_code 4 (some (.array .int)) ws ({ frames := 0, cells := 1, slots := 16, locals := 0 } : Room) #[(.int (Int32.ofNat d)), (.int (Int32.ofNat n))] (Q_rm1 Z d n h0 n0) := by
  refine own_enter (plainFor_of_name pn_1) ?_
  intro p e s m below meth c T0 X0 hx hby hml hret hlk hown hnm hZ e0
  have N0 := Fr.nil n0
  have kp0 : Keep h0 h0 [] := Keep.refl h0 _
  rw [show entryFrame m #[(.int (Int32.ofNat d)), (.int (Int32.ofNat n))] 4 = (mkF m 0 #[.val (.int (Int32.ofNat d)), .val (.int (Int32.ofNat n)), .unset, .unset] []) from by first | rfl | simp [entryFrame, mkF, argsToLocals, Value.category]]
  refine own_Go.of (S' := (T0.setTop (mkF m 1 #[.val (.int (Int32.ofNat d)), .val (.int (Int32.ofNat n)), .unset, .unset] [(.int (Int32.ofNat n))]))) (fun t kt => ?_) ?_
  · show Steps p.tables e below (T0.setTop (mkF m 0 #[.val (.int (Int32.ofNat d)), .val (.int (Int32.ofNat n)), .unset, .unset] [])) _
    refine XS.iloadN X0.here hx rfl (own_hb hby d1_0) rfl ?_
    exact kt
  obtain ⟨T9, h9, X9, e9, E9, A9, st9⟩ := own_newP X0 hx hZ (hw _ (List.mem_of_getElem? (i := 5) rfl)) e0 (g := (mkF m 1 #[.val (.int (Int32.ofNat d)), .val (.int (Int32.ofNat n)), .unset, .unset] [(.int (Int32.ofNat n))])) rfl (own_hb hby d1_1) rfl (n := n) (cap := 16) rfl hn (by decide) (by decide) (by decide)
  obtain ⟨b9, g9⟩ : ∃ z, z = h0.size := ⟨_, rfl⟩
  rw [← g9] at A9 st9
  have gx9 : n0 ≤ b9 := Nat.le_trans Z0 (Nat.le_of_eq g9.symm)
  have sz9 : h0.size ≤ b9 := Nat.le_trans kp0.1 (Nat.le_of_eq g9.symm)
  refine own_Go.of (S' := (T9.setTop (mkF m 3 #[.val (.int (Int32.ofNat d)), .val (.int (Int32.ofNat n)), .unset, .unset] [(.ref b9)]))) st9 ?_
  have z10 : n0 ≤ h9.size := Nat.le_trans Z0 E9.1
  have kp11 : Keep h0 h9 [] := kp0.ext E9
  have f12 : own_Ar Z h9 b9 .int n (own_I (fun _ => (0 : Int32))) := A9
  refine own_Go.of (S' := (T9.setTop (mkF m 6 #[.val (.int (Int32.ofNat d)), .val (.int (Int32.ofNat n)), .val (.ref b9), .val (.int (0 : Int32))] []))) (fun t kt => ?_) ?_
  · show Steps p.tables e below (T9.setTop (mkF m 3 #[.val (.int (Int32.ofNat d)), .val (.int (Int32.ofNat n)), .unset, .unset] [(.ref b9)])) _
    refine XS.astoreN X9.here hx rfl (own_hb hby d1_3) rfl rfl (l' := #[.val (.int (Int32.ofNat d)), .val (.int (Int32.ofNat n)), .val (.ref b9), .unset]) rfl ?_
    show Steps p.tables e below (T9.setTop (mkF m 4 #[.val (.int (Int32.ofNat d)), .val (.int (Int32.ofNat n)), .val (.ref b9), .unset] [])) _
    refine XS.iconst X9.here hx rfl (own_hb hby d1_4) ?_
    show Steps p.tables e below (T9.setTop (mkF m 5 #[.val (.int (Int32.ofNat d)), .val (.int (Int32.ofNat n)), .val (.ref b9), .unset] [(.int (0 : Int32))])) _
    refine XS.istoreN X9.here hx rfl (own_hb hby d1_5) rfl (l' := #[.val (.int (Int32.ofNat d)), .val (.int (Int32.ofNat n)), .val (.ref b9), .val (.int (0 : Int32))]) rfl ?_
    exact kt
  exact loop1 hw hx hZ hby hml hret hlk hown hnm d n h0 n0 b9 hd hn1 hn sz9 gx9 n 0 (own_mono X9 (by decide) (by decide)) e9 N0 z10 (Nat.zero_add n) (f12.eqvI (fun j hj => by unfold own_f; rw [if_neg (Nat.not_lt_zero j)])) kp11
theorem pn_0 : plainName "com/example/hearsay/hearsay/sim/PlacementUniformPinLaw" = true := by first | (simp [plainName, overriddenIn]; done) | decide +kernel
def Q_rm0 (Z : State) (p0 : Int32) (p1 : Int32) (p2 : Int32) (h0 : Heap) (n0 : Nat) (v : Option Value) (h : Heap) (L : List Loc) : Prop := v = some (.int (1 : Int32)) ∧ Fr n0 L
theorem pd_0 : parseMethodDescriptor "(II)[I" = some ⟨[.int, .int], some (.array .int)⟩ := by decide +kernel
set_option maxRecDepth 65536 in
set_option maxHeartbeats 40000000 in
theorem rm0 (l : Launch) (Z : State) (a0 : Array Value) (hw : ∀ d ∈ tables_1, d.before a0 Z = true) (ws : List Jvm.Cond) (p0 : Int32) (p1 : Int32) (p2 : Int32) (h0 : Heap) (n0 : Nat) (Z0 : n0 ≤ h0.size)  :
    own_Met l Z h0 x code maxLocals ret ws room_1 #[(.int p0), (.int p1), (.int p2)] (Q_rm0 Z p0 p1 p2 h0 n0) := by
  refine own_enter (plainFor_of_name pn_0) ?_
  intro p e s m below meth c T0 X0 hx hby hml hret hlk hown hnm hZ e0
  have N0 := Fr.nil n0
  rw [show entryFrame m #[(.int p0), (.int p1), (.int p2)] maxLocals = (mkF m 0 #[.val (.int p0), .val (.int p1), .val (.int p2), .unset, .unset, .unset, .unset, .unset, .unset] []) from by first | rfl | simp [entryFrame, mkF, argsToLocals, Value.category, maxLocals]]
  obtain ⟨d, hd, ed⟩ : ∃ n : Nat, n ≤ 2147483647 ∧ (p0 &&& (2147483647 : Int32)) = Int32.ofNat n := own_mask p0 2147483647
  obtain ⟨n', hn', en⟩ : ∃ n : Nat, n ≤ 15 ∧ (p1 &&& (15 : Int32)) = Int32.ofNat n := own_mask p1 15
  obtain ⟨k, hk, ek⟩ : ∃ n : Nat, n ≤ 2147483647 ∧ (p2 &&& (2147483647 : Int32)) = Int32.ofNat n := own_mask p2 2147483647
  obtain ⟨n, hnn⟩ : ∃ n, n = n' + 1 := ⟨_, rfl⟩
  have en2 : (p1 &&& (15 : Int32)) + (1 : Int32) = Int32.ofNat n := by rw [en, hnn]; exact own_addN n' 1
  obtain ⟨i, hi⟩ : ∃ i, i = k % n := ⟨_, rfl⟩
  have hin : i < n := by rw [hi]; exact Nat.mod_lt _ (by omega)
  have ei : Int32.ofNat k - (Int32.ofNat k / Int32.ofNat n) * Int32.ofNat n = Int32.ofNat i := by rw [hi]; exact own_remN (by omega) (by omega)
  refine own_Go.of (S' := (T0.setTop (mkF m 25 #[.val (.int p0), .val (.int p1), .val (.int p2), .val (.int (Int32.ofNat d)), .val (.int (Int32.ofNat n)), .val (.int (Int32.ofNat i)), .unset, .unset, .unset] [(.int (Int32.ofNat n)), (.int (Int32.ofNat d))]))) (fun t kt => ?_) ?_
  · show Steps p.tables e below (T0.setTop (mkF m 0 #[.val (.int p0), .val (.int p1), .val (.int p2), .unset, .unset, .unset, .unset, .unset, .unset] [])) _
    refine XS.iloadN X0.here hx rfl (own_hb hby at_0) rfl ?_
    show Steps p.tables e below (T0.setTop (mkF m 1 #[.val (.int p0), .val (.int p1), .val (.int p2), .unset, .unset, .unset, .unset, .unset, .unset] [(.int p0)])) _
    refine X0.ldcInt hx hown (mvT hZ (hw _ (List.mem_of_getElem? (i := 0) rfl))) (g := (mkF m 1 #[.val (.int p0), .val (.int p1), .val (.int p2), .unset, .unset, .unset, .unset, .unset, .unset] [(.int p0)])) rfl (own_hb hby at_1) _ ?_
    show Steps p.tables e below (T0.setTop (mkF m 3 #[.val (.int p0), .val (.int p1), .val (.int p2), .unset, .unset, .unset, .unset, .unset, .unset] [(.int (2147483647 : Int32)), (.int p0)])) _
    refine XS.iand X0.here hx rfl (own_hb hby at_3) rfl ?_
    show Steps p.tables e below (T0.setTop (mkF m 4 #[.val (.int p0), .val (.int p1), .val (.int p2), .unset, .unset, .unset, .unset, .unset, .unset] [(.int (p0 &&& (2147483647 : Int32)))])) _
    rw [ed]
    show Steps p.tables e below (T0.setTop (mkF m 4 #[.val (.int p0), .val (.int p1), .val (.int p2), .unset, .unset, .unset, .unset, .unset, .unset] [(.int (Int32.ofNat d))])) _
    refine XS.istoreN X0.here hx rfl (own_hb hby at_4) rfl (l' := #[.val (.int p0), .val (.int p1), .val (.int p2), .val (.int (Int32.ofNat d)), .unset, .unset, .unset, .unset, .unset]) rfl ?_
    show Steps p.tables e below (T0.setTop (mkF m 5 #[.val (.int p0), .val (.int p1), .val (.int p2), .val (.int (Int32.ofNat d)), .unset, .unset, .unset, .unset, .unset] [])) _
    refine XS.iloadN X0.here hx rfl (own_hb hby at_5) rfl ?_
    show Steps p.tables e below (T0.setTop (mkF m 6 #[.val (.int p0), .val (.int p1), .val (.int p2), .val (.int (Int32.ofNat d)), .unset, .unset, .unset, .unset, .unset] [(.int p1)])) _
    refine XS.bipush X0.here hx rfl (own_hb hby at_6) ?_
    show Steps p.tables e below (T0.setTop (mkF m 8 #[.val (.int p0), .val (.int p1), .val (.int p2), .val (.int (Int32.ofNat d)), .unset, .unset, .unset, .unset, .unset] [(.int (15 : Int32)), (.int p1)])) _
    refine XS.iand X0.here hx rfl (own_hb hby at_8) rfl ?_
    show Steps p.tables e below (T0.setTop (mkF m 9 #[.val (.int p0), .val (.int p1), .val (.int p2), .val (.int (Int32.ofNat d)), .unset, .unset, .unset, .unset, .unset] [(.int (p1 &&& (15 : Int32)))])) _
    refine XS.iconst X0.here hx rfl (own_hb hby at_9) ?_
    show Steps p.tables e below (T0.setTop (mkF m 10 #[.val (.int p0), .val (.int p1), .val (.int p2), .val (.int (Int32.ofNat d)), .unset, .unset, .unset, .unset, .unset] [(.int (1 : Int32)), (.int (p1 &&& (15 : Int32)))])) _
    refine XS.iadd X0.here hx rfl (own_hb hby at_10) rfl ?_
    show Steps p.tables e below (T0.setTop (mkF m 11 #[.val (.int p0), .val (.int p1), .val (.int p2), .val (.int (Int32.ofNat d)), .unset, .unset, .unset, .unset, .unset] [(.int ((p1 &&& (15 : Int32)) + (1 : Int32)))])) _
    rw [en2]
    show Steps p.tables e below (T0.setTop (mkF m 11 #[.val (.int p0), .val (.int p1), .val (.int p2), .val (.int (Int32.ofNat d)), .unset, .unset, .unset, .unset, .unset] [(.int (Int32.ofNat n))])) _
    refine XS.istore X0.here hx rfl (own_hb hby at_11) rfl (l' := #[.val (.int p0), .val (.int p1), .val (.int p2), .val (.int (Int32.ofNat d)), .val (.int (Int32.ofNat n)), .unset, .unset, .unset, .unset]) rfl ?_
    show Steps p.tables e below (T0.setTop (mkF m 13 #[.val (.int p0), .val (.int p1), .val (.int p2), .val (.int (Int32.ofNat d)), .val (.int (Int32.ofNat n)), .unset, .unset, .unset, .unset] [])) _
    refine XS.iloadN X0.here hx rfl (own_hb hby at_13) rfl ?_
    show Steps p.tables e below (T0.setTop (mkF m 14 #[.val (.int p0), .val (.int p1), .val (.int p2), .val (.int (Int32.ofNat d)), .val (.int (Int32.ofNat n)), .unset, .unset, .unset, .unset] [(.int p2)])) _
    refine X0.ldcInt hx hown (mvT hZ (hw _ (List.mem_of_getElem? (i := 0) rfl))) (g := (mkF m 14 #[.val (.int p0), .val (.int p1), .val (.int p2), .val (.int (Int32.ofNat d)), .val (.int (Int32.ofNat n)), .unset, .unset, .unset, .unset] [(.int p2)])) rfl (own_hb hby at_14) _ ?_
    show Steps p.tables e below (T0.setTop (mkF m 16 #[.val (.int p0), .val (.int p1), .val (.int p2), .val (.int (Int32.ofNat d)), .val (.int (Int32.ofNat n)), .unset, .unset, .unset, .unset] [(.int (2147483647 : Int32)), (.int p2)])) _
    refine XS.iand X0.here hx rfl (own_hb hby at_16) rfl ?_
    show Steps p.tables e below (T0.setTop (mkF m 17 #[.val (.int p0), .val (.int p1), .val (.int p2), .val (.int (Int32.ofNat d)), .val (.int (Int32.ofNat n)), .unset, .unset, .unset, .unset] [(.int (p2 &&& (2147483647 : Int32)))])) _
    rw [ek]
    show Steps p.tables e below (T0.setTop (mkF m 17 #[.val (.int p0), .val (.int p1), .val (.int p2), .val (.int (Int32.ofNat d)), .val (.int (Int32.ofNat n)), .unset, .unset, .unset, .unset] [(.int (Int32.ofNat k))])) _
    refine XS.iload X0.here hx rfl (own_hb hby at_17) rfl ?_
    show Steps p.tables e below (T0.setTop (mkF m 19 #[.val (.int p0), .val (.int p1), .val (.int p2), .val (.int (Int32.ofNat d)), .val (.int (Int32.ofNat n)), .unset, .unset, .unset, .unset] [(.int (Int32.ofNat n)), (.int (Int32.ofNat k))])) _
    refine XS.irem X0.here hx rfl (own_hb hby at_19) rfl (own_nzN (by omega) (by omega)) ?_
    show Steps p.tables e below (T0.setTop (mkF m 20 #[.val (.int p0), .val (.int p1), .val (.int p2), .val (.int (Int32.ofNat d)), .val (.int (Int32.ofNat n)), .unset, .unset, .unset, .unset] [(.int ((Int32.ofNat k) - ((Int32.ofNat k) / (Int32.ofNat n)) * (Int32.ofNat n)))])) _
    rw [ei]
    show Steps p.tables e below (T0.setTop (mkF m 20 #[.val (.int p0), .val (.int p1), .val (.int p2), .val (.int (Int32.ofNat d)), .val (.int (Int32.ofNat n)), .unset, .unset, .unset, .unset] [(.int (Int32.ofNat i))])) _
    refine XS.istore X0.here hx rfl (own_hb hby at_20) rfl (l' := #[.val (.int p0), .val (.int p1), .val (.int p2), .val (.int (Int32.ofNat d)), .val (.int (Int32.ofNat n)), .val (.int (Int32.ofNat i)), .unset, .unset, .unset]) rfl ?_
    show Steps p.tables e below (T0.setTop (mkF m 22 #[.val (.int p0), .val (.int p1), .val (.int p2), .val (.int (Int32.ofNat d)), .val (.int (Int32.ofNat n)), .val (.int (Int32.ofNat i)), .unset, .unset, .unset] [])) _
    refine XS.iloadN X0.here hx rfl (own_hb hby at_22) rfl ?_
    show Steps p.tables e below (T0.setTop (mkF m 23 #[.val (.int p0), .val (.int p1), .val (.int p2), .val (.int (Int32.ofNat d)), .val (.int (Int32.ofNat n)), .val (.int (Int32.ofNat i)), .unset, .unset, .unset] [(.int (Int32.ofNat d))])) _
    refine XS.iload X0.here hx rfl (own_hb hby at_23) rfl ?_
    exact kt
  obtain ⟨_, _, ⟨T13, L13, k13, n13⟩, -, X13, ⟨Lc13, hQ13, l13, y13, z13⟩, st13⟩ := Jvm.LawKit.callS X0 hx (y := (⟨"com/example/hearsay/hearsay/sim/Placement", "uniform", "(II)[I"⟩ : MethodName)) hown (mvT hZ (hw _ (List.mem_of_getElem? (i := 1) rfl))) (mvT hZ (hw _ (List.mem_of_getElem? (i := 2) rfl))) (mvT hZ (hw _ (List.mem_of_getElem? (i := 3) rfl))) (mvT hZ (hw _ (List.mem_of_getElem? (i := 4) rfl))) (by decide) (backOf (W := 0) (rm1 l Z a0 hw [] d n h0 n0 Z0 (by omega) (by omega) (by omega)) hZ (hw _ (List.mem_of_getElem? (i := 4) rfl)) (hw _ (List.mem_of_getElem? (i := 3) rfl)) (by decide) (by decide)) (g := (mkF m 25 #[.val (.int p0), .val (.int p1), .val (.int p2), .val (.int (Int32.ofNat d)), .val (.int (Int32.ofNat n)), .val (.int (Int32.ofNat i)), .unset, .unset, .unset] [(.int (Int32.ofNat n)), (.int (Int32.ofNat d))])) rfl (by rw [hml]; rfl) (argsL := [(.int (Int32.ofNat d)), (.int (Int32.ofNat n))]) (rest := []) (lenOf pd_0 rfl) rfl (by show 2 * 0 + _ ≤ _; exact Nat.le_of_eq rfl) (own_hb hby at_25) (fun _ _ => ⟨rfl, e0, (by decide : 0 + 1 ≤ _), (by decide : 0 + 16 ≤ _)⟩)
  dsimp only [Pt.U, Pt.locs, Pt.cells, Pt.slots] at X13 l13 y13 z13 st13 hQ13
  subst l13 y13 z13
  obtain ⟨b13, rfl, N13q, K13, p13_0, p13_1⟩ := hQ13
  have N13 := Fr.app N0 N13q
  refine own_Go.of (S' := (T13.setTop (mkF m 28 #[.val (.int p0), .val (.int p1), .val (.int p2), .val (.int (Int32.ofNat d)), .val (.int (Int32.ofNat n)), .val (.int (Int32.ofNat i)), .unset, .unset, .unset] [(.ref b13)]))) (fun t kt => st13 t kt) ?_
  have gx14 : n0 ≤ b13 := Nat.le_trans Z0 p13_0
  have z15 : n0 ≤ T13.heap.size := Nat.le_trans Z0 K13.1
  refine own_Go.of (S' := (T13.setTop (mkF m 32 #[.val (.int p0), .val (.int p1), .val (.int p2), .val (.int (Int32.ofNat d)), .val (.int (Int32.ofNat n)), .val (.int (Int32.ofNat i)), .val (.ref b13), .unset, .unset] [(.ref b13)]))) (fun t kt => ?_) ?_
  · show Steps p.tables e below (T13.setTop (mkF m 28 #[.val (.int p0), .val (.int p1), .val (.int p2), .val (.int (Int32.ofNat d)), .val (.int (Int32.ofNat n)), .val (.int (Int32.ofNat i)), .unset, .unset, .unset] [(.ref b13)])) _
    refine XS.astore X13.here hx rfl (own_hb hby at_28) rfl rfl (l' := #[.val (.int p0), .val (.int p1), .val (.int p2), .val (.int (Int32.ofNat d)), .val (.int (Int32.ofNat n)), .val (.int (Int32.ofNat i)), .val (.ref b13), .unset, .unset]) rfl ?_
    show Steps p.tables e below (T13.setTop (mkF m 30 #[.val (.int p0), .val (.int p1), .val (.int p2), .val (.int (Int32.ofNat d)), .val (.int (Int32.ofNat n)), .val (.int (Int32.ofNat i)), .val (.ref b13), .unset, .unset] [])) _
    refine XS.aload X13.here hx rfl (own_hb hby at_30) rfl rfl ?_
    exact kt
  obtain ⟨cl16, Ar16, hln16⟩ := own_Ar.len p13_1
  refine own_Go.of (S' := (T13.setTop (mkF m 62 #[.val (.int p0), .val (.int p1), .val (.int p2), .val (.int (Int32.ofNat d)), .val (.int (Int32.ofNat n)), .val (.int (Int32.ofNat i)), .val (.ref b13), .val (.long ((((((Int32.ofNat d).toInt64) + ((Int32.ofNat n).toInt64)) - (1 : Int64)) - ((Int32.ofNat i).toInt64)) / ((Int32.ofNat n).toInt64))), .second] [(.int (Int32.ofNat i)), (.ref b13)]))) (fun t kt => ?_) ?_
  · show Steps p.tables e below (T13.setTop (mkF m 32 #[.val (.int p0), .val (.int p1), .val (.int p2), .val (.int (Int32.ofNat d)), .val (.int (Int32.ofNat n)), .val (.int (Int32.ofNat i)), .val (.ref b13), .unset, .unset] [(.ref b13)])) _
    refine X13.arraylength hx Ar16.1 (State.isArrayOf_alike hZ.alike Ar16.2.1) (g := (mkF m 32 #[.val (.int p0), .val (.int p1), .val (.int p2), .val (.int (Int32.ofNat d)), .val (.int (Int32.ofNat n)), .val (.int (Int32.ofNat i)), .val (.ref b13), .unset, .unset] [(.ref b13)])) rfl rfl (own_hb hby at_32) _ ?_
    rw [hln16]
    show Steps p.tables e below (T13.setTop (mkF m 33 #[.val (.int p0), .val (.int p1), .val (.int p2), .val (.int (Int32.ofNat d)), .val (.int (Int32.ofNat n)), .val (.int (Int32.ofNat i)), .val (.ref b13), .unset, .unset] [(.int (Int32.ofNat n))])) _
    refine XS.iload X13.here hx rfl (own_hb hby at_33) rfl ?_
    show Steps p.tables e below (T13.setTop (mkF m 35 #[.val (.int p0), .val (.int p1), .val (.int p2), .val (.int (Int32.ofNat d)), .val (.int (Int32.ofNat n)), .val (.int (Int32.ofNat i)), .val (.ref b13), .unset, .unset] [(.int (Int32.ofNat n)), (.int (Int32.ofNat n))])) _
    refine XS.icmpYes X13.here hx rfl (pc0 := 35) (pc' := 40) rfl (own_hb hby at_35) rfl (teq (rfl : (Int32.ofNat n) = (Int32.ofNat n))).1 (by decide) (by decide) ?_
    show Steps p.tables e below (T13.setTop (mkF m 40 #[.val (.int p0), .val (.int p1), .val (.int p2), .val (.int (Int32.ofNat d)), .val (.int (Int32.ofNat n)), .val (.int (Int32.ofNat i)), .val (.ref b13), .unset, .unset] [])) _
    refine XS.iloadN X13.here hx rfl (own_hb hby at_40) rfl ?_
    show Steps p.tables e below (T13.setTop (mkF m 41 #[.val (.int p0), .val (.int p1), .val (.int p2), .val (.int (Int32.ofNat d)), .val (.int (Int32.ofNat n)), .val (.int (Int32.ofNat i)), .val (.ref b13), .unset, .unset] [(.int (Int32.ofNat d))])) _
    refine XS.i2l X13.here hx rfl (own_hb hby at_41) rfl ?_
    show Steps p.tables e below (T13.setTop (mkF m 42 #[.val (.int p0), .val (.int p1), .val (.int p2), .val (.int (Int32.ofNat d)), .val (.int (Int32.ofNat n)), .val (.int (Int32.ofNat i)), .val (.ref b13), .unset, .unset] [(.long ((Int32.ofNat d).toInt64))])) _
    refine XS.iload X13.here hx rfl (own_hb hby at_42) rfl ?_
    show Steps p.tables e below (T13.setTop (mkF m 44 #[.val (.int p0), .val (.int p1), .val (.int p2), .val (.int (Int32.ofNat d)), .val (.int (Int32.ofNat n)), .val (.int (Int32.ofNat i)), .val (.ref b13), .unset, .unset] [(.int (Int32.ofNat n)), (.long ((Int32.ofNat d).toInt64))])) _
    refine XS.i2l X13.here hx rfl (own_hb hby at_44) rfl ?_
    show Steps p.tables e below (T13.setTop (mkF m 45 #[.val (.int p0), .val (.int p1), .val (.int p2), .val (.int (Int32.ofNat d)), .val (.int (Int32.ofNat n)), .val (.int (Int32.ofNat i)), .val (.ref b13), .unset, .unset] [(.long ((Int32.ofNat n).toInt64)), (.long ((Int32.ofNat d).toInt64))])) _
    refine XS.ladd X13.here hx rfl (own_hb hby at_45) rfl ?_
    show Steps p.tables e below (T13.setTop (mkF m 46 #[.val (.int p0), .val (.int p1), .val (.int p2), .val (.int (Int32.ofNat d)), .val (.int (Int32.ofNat n)), .val (.int (Int32.ofNat i)), .val (.ref b13), .unset, .unset] [(.long (((Int32.ofNat d).toInt64) + ((Int32.ofNat n).toInt64)))])) _
    refine XS.lconst X13.here hx rfl (own_hb hby at_46) ?_
    show Steps p.tables e below (T13.setTop (mkF m 47 #[.val (.int p0), .val (.int p1), .val (.int p2), .val (.int (Int32.ofNat d)), .val (.int (Int32.ofNat n)), .val (.int (Int32.ofNat i)), .val (.ref b13), .unset, .unset] [(.long (1 : Int64)), (.long (((Int32.ofNat d).toInt64) + ((Int32.ofNat n).toInt64)))])) _
    refine XS.lsub X13.here hx rfl (own_hb hby at_47) rfl ?_
    show Steps p.tables e below (T13.setTop (mkF m 48 #[.val (.int p0), .val (.int p1), .val (.int p2), .val (.int (Int32.ofNat d)), .val (.int (Int32.ofNat n)), .val (.int (Int32.ofNat i)), .val (.ref b13), .unset, .unset] [(.long ((((Int32.ofNat d).toInt64) + ((Int32.ofNat n).toInt64)) - (1 : Int64)))])) _
    refine XS.iload X13.here hx rfl (own_hb hby at_48) rfl ?_
    show Steps p.tables e below (T13.setTop (mkF m 50 #[.val (.int p0), .val (.int p1), .val (.int p2), .val (.int (Int32.ofNat d)), .val (.int (Int32.ofNat n)), .val (.int (Int32.ofNat i)), .val (.ref b13), .unset, .unset] [(.int (Int32.ofNat i)), (.long ((((Int32.ofNat d).toInt64) + ((Int32.ofNat n).toInt64)) - (1 : Int64)))])) _
    refine XS.i2l X13.here hx rfl (own_hb hby at_50) rfl ?_
    show Steps p.tables e below (T13.setTop (mkF m 51 #[.val (.int p0), .val (.int p1), .val (.int p2), .val (.int (Int32.ofNat d)), .val (.int (Int32.ofNat n)), .val (.int (Int32.ofNat i)), .val (.ref b13), .unset, .unset] [(.long ((Int32.ofNat i).toInt64)), (.long ((((Int32.ofNat d).toInt64) + ((Int32.ofNat n).toInt64)) - (1 : Int64)))])) _
    refine XS.lsub X13.here hx rfl (own_hb hby at_51) rfl ?_
    show Steps p.tables e below (T13.setTop (mkF m 52 #[.val (.int p0), .val (.int p1), .val (.int p2), .val (.int (Int32.ofNat d)), .val (.int (Int32.ofNat n)), .val (.int (Int32.ofNat i)), .val (.ref b13), .unset, .unset] [(.long (((((Int32.ofNat d).toInt64) + ((Int32.ofNat n).toInt64)) - (1 : Int64)) - ((Int32.ofNat i).toInt64)))])) _
    refine XS.iload X13.here hx rfl (own_hb hby at_52) rfl ?_
    show Steps p.tables e below (T13.setTop (mkF m 54 #[.val (.int p0), .val (.int p1), .val (.int p2), .val (.int (Int32.ofNat d)), .val (.int (Int32.ofNat n)), .val (.int (Int32.ofNat i)), .val (.ref b13), .unset, .unset] [(.int (Int32.ofNat n)), (.long (((((Int32.ofNat d).toInt64) + ((Int32.ofNat n).toInt64)) - (1 : Int64)) - ((Int32.ofNat i).toInt64)))])) _
    refine XS.i2l X13.here hx rfl (own_hb hby at_54) rfl ?_
    show Steps p.tables e below (T13.setTop (mkF m 55 #[.val (.int p0), .val (.int p1), .val (.int p2), .val (.int (Int32.ofNat d)), .val (.int (Int32.ofNat n)), .val (.int (Int32.ofNat i)), .val (.ref b13), .unset, .unset] [(.long ((Int32.ofNat n).toInt64)), (.long (((((Int32.ofNat d).toInt64) + ((Int32.ofNat n).toInt64)) - (1 : Int64)) - ((Int32.ofNat i).toInt64)))])) _
    refine XS.ldiv X13.here hx rfl (own_hb hby at_55) rfl (fun q => by have h2 := congrArg Int64.toInt q; rw [own_L (by omega)] at h2; have e0 : (0 : Int64).toInt = 0 := rfl; omega) ?_
    show Steps p.tables e below (T13.setTop (mkF m 56 #[.val (.int p0), .val (.int p1), .val (.int p2), .val (.int (Int32.ofNat d)), .val (.int (Int32.ofNat n)), .val (.int (Int32.ofNat i)), .val (.ref b13), .unset, .unset] [(.long ((((((Int32.ofNat d).toInt64) + ((Int32.ofNat n).toInt64)) - (1 : Int64)) - ((Int32.ofNat i).toInt64)) / ((Int32.ofNat n).toInt64)))])) _
    refine XS.lstore X13.here hx rfl (own_hb hby at_56) rfl (l' := #[.val (.int p0), .val (.int p1), .val (.int p2), .val (.int (Int32.ofNat d)), .val (.int (Int32.ofNat n)), .val (.int (Int32.ofNat i)), .val (.ref b13), .val (.long ((((((Int32.ofNat d).toInt64) + ((Int32.ofNat n).toInt64)) - (1 : Int64)) - ((Int32.ofNat i).toInt64)) / ((Int32.ofNat n).toInt64))), .second]) rfl ?_
    show Steps p.tables e below (T13.setTop (mkF m 58 #[.val (.int p0), .val (.int p1), .val (.int p2), .val (.int (Int32.ofNat d)), .val (.int (Int32.ofNat n)), .val (.int (Int32.ofNat i)), .val (.ref b13), .val (.long ((((((Int32.ofNat d).toInt64) + ((Int32.ofNat n).toInt64)) - (1 : Int64)) - ((Int32.ofNat i).toInt64)) / ((Int32.ofNat n).toInt64))), .second] [])) _
    refine XS.aload X13.here hx rfl (own_hb hby at_58) rfl rfl ?_
    show Steps p.tables e below (T13.setTop (mkF m 60 #[.val (.int p0), .val (.int p1), .val (.int p2), .val (.int (Int32.ofNat d)), .val (.int (Int32.ofNat n)), .val (.int (Int32.ofNat i)), .val (.ref b13), .val (.long ((((((Int32.ofNat d).toInt64) + ((Int32.ofNat n).toInt64)) - (1 : Int64)) - ((Int32.ofNat i).toInt64)) / ((Int32.ofNat n).toInt64))), .second] [(.ref b13)])) _
    refine XS.iload X13.here hx rfl (own_hb hby at_60) rfl ?_
    exact kt
  obtain ⟨cl17, Ar17, hin17, hat17⟩ := own_Ar.get (j := (Int32.ofNat i)) (k := i) p13_1 ⟨rfl, hin⟩
  refine own_Go.of (S' := (T13.setTop (mkF m 75 #[.val (.int p0), .val (.int p1), .val (.int p2), .val (.int (Int32.ofNat d)), .val (.int (Int32.ofNat n)), .val (.int (Int32.ofNat i)), .val (.ref b13), .val (.long ((((((Int32.ofNat d).toInt64) + ((Int32.ofNat n).toInt64)) - (1 : Int64)) - ((Int32.ofNat i).toInt64)) / ((Int32.ofNat n).toInt64))), .second] [(.int (1 : Int32))]))) (fun t kt => ?_) ?_
  · show Steps p.tables e below (T13.setTop (mkF m 62 #[.val (.int p0), .val (.int p1), .val (.int p2), .val (.int (Int32.ofNat d)), .val (.int (Int32.ofNat n)), .val (.int (Int32.ofNat i)), .val (.ref b13), .val (.long ((((((Int32.ofNat d).toInt64) + ((Int32.ofNat n).toInt64)) - (1 : Int64)) - ((Int32.ofNat i).toInt64)) / ((Int32.ofNat n).toInt64))), .second] [(.int (Int32.ofNat i)), (.ref b13)])) _
    refine X13.iaload hx (j := (Int32.ofNat i)) (v := (.int ((own_g d n) i))) Ar17.1 (State.isArrayOf_alike hZ.alike Ar17.2.1) Ar17.2.2 hin17 hat17 (g := (mkF m 62 #[.val (.int p0), .val (.int p1), .val (.int p2), .val (.int (Int32.ofNat d)), .val (.int (Int32.ofNat n)), .val (.int (Int32.ofNat i)), .val (.ref b13), .val (.long ((((((Int32.ofNat d).toInt64) + ((Int32.ofNat n).toInt64)) - (1 : Int64)) - ((Int32.ofNat i).toInt64)) / ((Int32.ofNat n).toInt64))), .second] [(.int (Int32.ofNat i)), (.ref b13)])) rfl rfl (own_hb hby at_62) _ ?_
    show Steps p.tables e below (T13.setTop (mkF m 63 #[.val (.int p0), .val (.int p1), .val (.int p2), .val (.int (Int32.ofNat d)), .val (.int (Int32.ofNat n)), .val (.int (Int32.ofNat i)), .val (.ref b13), .val (.long ((((((Int32.ofNat d).toInt64) + ((Int32.ofNat n).toInt64)) - (1 : Int64)) - ((Int32.ofNat i).toInt64)) / ((Int32.ofNat n).toInt64))), .second] [(.int ((own_g d n) i))])) _
    refine XS.i2l X13.here hx rfl (own_hb hby at_63) rfl ?_
    show Steps p.tables e below (T13.setTop (mkF m 64 #[.val (.int p0), .val (.int p1), .val (.int p2), .val (.int (Int32.ofNat d)), .val (.int (Int32.ofNat n)), .val (.int (Int32.ofNat i)), .val (.ref b13), .val (.long ((((((Int32.ofNat d).toInt64) + ((Int32.ofNat n).toInt64)) - (1 : Int64)) - ((Int32.ofNat i).toInt64)) / ((Int32.ofNat n).toInt64))), .second] [(.long (((own_g d n) i).toInt64))])) _
    refine XS.lload X13.here hx rfl (own_hb hby at_64) rfl ?_
    show Steps p.tables e below (T13.setTop (mkF m 66 #[.val (.int p0), .val (.int p1), .val (.int p2), .val (.int (Int32.ofNat d)), .val (.int (Int32.ofNat n)), .val (.int (Int32.ofNat i)), .val (.ref b13), .val (.long ((((((Int32.ofNat d).toInt64) + ((Int32.ofNat n).toInt64)) - (1 : Int64)) - ((Int32.ofNat i).toInt64)) / ((Int32.ofNat n).toInt64))), .second] [(.long ((((((Int32.ofNat d).toInt64) + ((Int32.ofNat n).toInt64)) - (1 : Int64)) - ((Int32.ofNat i).toInt64)) / ((Int32.ofNat n).toInt64))), (.long (((own_g d n) i).toInt64))])) _
    refine XS.lcmp X13.here hx rfl (own_hb hby at_66) rfl ?_
    show Steps p.tables e below (T13.setTop (mkF m 67 #[.val (.int p0), .val (.int p1), .val (.int p2), .val (.int (Int32.ofNat d)), .val (.int (Int32.ofNat n)), .val (.int (Int32.ofNat i)), .val (.ref b13), .val (.long ((((((Int32.ofNat d).toInt64) + ((Int32.ofNat n).toInt64)) - (1 : Int64)) - ((Int32.ofNat i).toInt64)) / ((Int32.ofNat n).toInt64))), .second] [(.int (lcmpW (((own_g d n) i).toInt64) ((((((Int32.ofNat d).toInt64) + ((Int32.ofNat n).toInt64)) - (1 : Int64)) - ((Int32.ofNat i).toInt64)) / ((Int32.ofNat n).toInt64))))])) _
    refine XS.ifNo X13.here hx rfl (own_hb hby at_67) rfl ((if0 _ _).trans (teq ((lw_eq _ _).mpr (own_final (by omega) (by omega) (by omega) hin))).2) ?_
    show Steps p.tables e below (T13.setTop (mkF m 70 #[.val (.int p0), .val (.int p1), .val (.int p2), .val (.int (Int32.ofNat d)), .val (.int (Int32.ofNat n)), .val (.int (Int32.ofNat i)), .val (.ref b13), .val (.long ((((((Int32.ofNat d).toInt64) + ((Int32.ofNat n).toInt64)) - (1 : Int64)) - ((Int32.ofNat i).toInt64)) / ((Int32.ofNat n).toInt64))), .second] [])) _
    refine XS.iconst X13.here hx rfl (own_hb hby at_70) ?_
    show Steps p.tables e below (T13.setTop (mkF m 71 #[.val (.int p0), .val (.int p1), .val (.int p2), .val (.int (Int32.ofNat d)), .val (.int (Int32.ofNat n)), .val (.int (Int32.ofNat i)), .val (.ref b13), .val (.long ((((((Int32.ofNat d).toInt64) + ((Int32.ofNat n).toInt64)) - (1 : Int64)) - ((Int32.ofNat i).toInt64)) / ((Int32.ofNat n).toInt64))), .second] [(.int (1 : Int32))])) _
    refine XS.goto X13.here hx rfl (pc0 := 71) (pc' := 75) rfl (own_hb hby at_71) (by decide) (by decide) ?_
    exact kt
  exact own_retN X13 hx hlk (t := .boolean) hret (by simp) (own_hb hby at_75) rfl ⟨rfl, N13⟩ (by decide) (by decide)
set_option maxRecDepth 65536 in
set_option maxHeartbeats 40000000 in
theorem comes_1 {Post : Tables → Env → Array Value → State → Outcome → State → Prop} (hpost : ∀ tb e args s v u, (limb_1_1.after args s (.returned v) u = true ∧ limb_1_2.after args s (.returned v) u = true ∧ True) → FrameEnd s (.returned v) u (Jvm.fieldLocs frame_1_writes args s ++ Jvm.arrayLocs frame_1_arrays args s ++ Jvm.staticLocs frame_1_statics s) 16 128 → Post tb e args s (.returned v) u) :
    ArmFor flags0 classFile x code maxLocals ret World_1 tables_1 room_1 Calls_1 rest_1 Pre_1 Post := by
  intro l hfl _ _ p e ha hc hk s m args below hf hA hF happ hP
  obtain ⟨hcalls, hrest, hpre⟩ := hP
  obtain ⟨-, -, -, hnamed, -, -, -, hat⟩ := (Spec.applies_iff hf).mp happ
  obtain ⟨hg, hn⟩ := and_e (Cond.before_iff.mp (show (Jvm.Cond.and given_1 narrow_1).before args s = true from hpre))
  obtain ⟨gc, gr0⟩ := and_e hg
  obtain ⟨ga0, gr1⟩ := and_e gr0
  obtain ⟨ga1, gr2⟩ := and_e gr1
  obtain ⟨w0, w1, w2, rfl⟩ : ∃ w0 w1 w2 : Value, args = #[w0, w1, w2] := by
    have hs : args.size = 3 := by simpa [Cond.value, given_1] using gc
    obtain ⟨L⟩ := args
    match L, hs with
    | [w0, w1, w2], _ => exact ⟨w0, w1, w2, rfl⟩
  have hw := fun d (hd : d ∈ tables_1) => atoms_spec (ws := Jvm.Cond.code x code maxLocals ret :: tables_1) hat d (List.mem_cons_of_mem _ hd)
  have hfit : Fit s := fun {y c} hc i hi => by
    obtain ⟨ha, rfl⟩ := Array.getElem?_eq_some_iff.mp hc
    have q := List.all_eq_true.mp ((Array.all_eq_true_iff_forall_mem.mp hF) _ (Array.getElem_mem ha)) i (List.mem_range.mpr hi)
    simpa [Array.getElem?_eq_getElem hi] using q
  obtain ⟨i0, ei0⟩ := is_v ga0
  obtain rfl : w0 = (.int i0) := Option.some.inj ei0
  obtain ⟨i1, ei1⟩ := is_v ga1
  obtain rfl : w1 = (.int i1) := Option.some.inj ei1
  obtain ⟨i2, ei2⟩ := is_v gr2
  obtain rfl : w2 = (.int i2) := Option.some.inj ei2
  obtain ⟨n, o, h1, h2, h3, _, L, rfl, ⟨rfl, N⟩, hq⟩ := rm0 l s _ hw tables_1 i0 i1 i2 s.heap s.heap.size (Nat.le_refl _)  p e ha hc hk s m _ below hf ((Spec.applies_iff_loose hf).mp happ).1 ⟨rfl, State.Warmed39.refl s, rfl⟩ trivial
  refine ⟨n, _, h1, h2, h3, hpost _ _ _ _ _ _ ⟨Cond.after_iff.mpr rfl, Cond.after_iff.mpr (eq_i res_at (Term.int_eval (1)) rfl), trivial⟩ ⟨hq.1, hq.2.1, (hq.2.2.sift fun y hy => Or.inr (N y hy)).mono (by decide) (by decide)⟩⟩
theorem main_1_1 : Claimed_1_1 := comes_1 fun _ _ _ _ _ _ h hF => ⟨h.1, hF⟩
theorem main_1_2 : Claimed_1_2 := comes_1 fun _ _ _ _ _ _ h hF => ⟨h.2.1, hF⟩
end Jvm.Pilot.@@N@@
namespace Jvm.Pilot.@@N@@
open Jvm Jvm.ClassFile Sem Op Lib Jvm.Free Jvm.Stand Jvm.Pilot.@@N@@.Jvm.D
/-! MADE BY PROGRAM (witnessworld.py) out of the Statement's table words and the real class files: 12 classes; the members and pool entries that the words name. The judged class is class 1, her method 1. -/
namespace start1
open Jvm.ClassFile
def u (s : String) : CpInfo := .utf8 (stringToUtf16 s)
/-- a pool by its gaps: so many unusable entries, then the entry; so many at the end -/
def gap : Nat → List CpInfo → List CpInfo
  | 0, r => r
  | n + 1, r => .unusable :: gap n r
def poolList (es : List (Nat × CpInfo)) (last : Nat) : List CpInfo := es.foldr (fun e r => gap e.1 (e.2 :: r)) (gap last [])
def pool (es : List (Nat × CpInfo)) (last : Nat) : Array CpInfo := ⟨poolList es last⟩
def fileOf (pool : Array CpInfo) (this : Nat) (attrs : Array Attribute := #[]) (ms : Array MethodInfo := #[]) (fl : Nat := 33) (sup : Nat := 0) (ifs : Array Nat := #[]) (fds : Array FieldInfo := #[]) : ClassFile where
  minorVersion := 0
  majorVersion := 65
  constantPool := pool
  accessFlags := fl
  thisClass := this
  superClass := sup
  interfaces := ifs
  fields := fds
  methods := ms
  attributes := attrs
def plain (name : String) (sup : Option ClassId) : Class where
  name := name
  kind := .ordinary
  loader := none
  accessFlags := 33
  super := sup
  interfaces := #[]
  cf := none
  fields := #[]
  methods := #[]
  instanceTypes := #[]
  staticTypes := #[]
  resolved := #[]
  callSites := []
  init := .initialized
  statics := none
  mirror := none

def pool0 : Array CpInfo := pool [(5, u "<init>"), (0, u "()V"), (1, .class_ 10), (1, u "java/lang/Object")] 113

def k0m0 : Method := { name := "<init>", desc := "()V", sig := { parameters := [], returnType := none }, accessFlags := 1, code := none }
/-- java/lang/Object -/
def k0 : Class := { plain "java/lang/Object" none with
  accessFlags := 33
  interfaces := #[]
  cf := some (fileOf pool0 8 #[] #[{ accessFlags := 1, nameIndex := 5, descriptorIndex := 6, attributes := #[] }] 33 0 #[] #[])
  fields := #[]
  methods := #[k0m0]
  instanceTypes := #[]
  staticTypes := #[]
  resolved := Array.replicate 124 none
  statics := none }

def pool1 : Array CpInfo := pool [(2, .class_ 4), (1, u "java/lang/Object"), (0, u "<init>"), (0, u "()V"), (0, .integer 2147483647), (0, .methodref 9 10), (0, .class_ 11), (0, .nameAndType 12 13), (0, u "com/example/hearsay/hearsay/sim/Placement"), (0, u "uniform"), (0, u "(II)[I"), (0, .class_ 15), (0, u "com/example/hearsay/hearsay/sim/PlacementUniformPinLaw"), (2, u "law"), (0, u "(III)Z")] 5

def k1m0 : Method := { name := "<init>", desc := "()V", sig := { parameters := [], returnType := none }, accessFlags := 1, code := none }
def k1c1 : Code := { maxStack := 4, maxLocals := 9, code := code, exceptionTable := #[], attributes := #[] }
def k1m1 : Method := { name := "law", desc := "(III)Z", sig := { parameters := [.int, .int, .int], returnType := some .boolean }, accessFlags := 9, code := some k1c1 }
/-- com/example/hearsay/hearsay/sim/PlacementUniformPinLaw -/
def k1 : Class := { plain "com/example/hearsay/hearsay/sim/PlacementUniformPinLaw" (some 0) with
  accessFlags := 49
  interfaces := #[]
  cf := some (fileOf pool1 14 #[] #[{ accessFlags := 1, nameIndex := 5, descriptorIndex := 6, attributes := #[] }, { accessFlags := 9, nameIndex := 18, descriptorIndex := 19, attributes := #[] }] 49 2 #[] #[])
  fields := #[]
  methods := #[k1m0, k1m1]
  instanceTypes := #[]
  staticTypes := #[]
  resolved := Array.replicate 25 none
  statics := none }

def pool2 : Array CpInfo := pool [(1, .class_ 2), (0, u "java/lang/constant/Constable"), (0, .class_ 4), (0, u "java/lang/Object")] 6

/-- java/lang/constant/Constable -/
def k2 : Class := { plain "java/lang/constant/Constable" (some 0) with
  accessFlags := 1537
  interfaces := #[]
  cf := some (fileOf pool2 1 #[] #[] 1537 3 #[] #[])
  fields := #[]
  methods := #[]
  instanceTypes := #[]
  staticTypes := #[]
  resolved := Array.replicate 11 none
  statics := none }

def pool3 : Array CpInfo := pool [(1, .class_ 2), (0, u "java/lang/Comparable"), (0, .class_ 4), (0, u "java/lang/Object")] 7

/-- java/lang/Comparable -/
def k3 : Class := { plain "java/lang/Comparable" (some 0) with
  accessFlags := 1537
  interfaces := #[]
  cf := some (fileOf pool3 1 #[] #[] 1537 3 #[] #[])
  fields := #[]
  methods := #[]
  instanceTypes := #[]
  staticTypes := #[]
  resolved := Array.replicate 12 none
  statics := none }

def pool4 : Array CpInfo := pool [(1, .class_ 2), (0, u "java/io/Serializable"), (0, .class_ 4), (0, u "java/lang/Object")] 2

/-- java/io/Serializable -/
def k4 : Class := { plain "java/io/Serializable" (some 0) with
  accessFlags := 1537
  interfaces := #[]
  cf := some (fileOf pool4 1 #[] #[] 1537 3 #[] #[])
  fields := #[]
  methods := #[]
  instanceTypes := #[]
  staticTypes := #[]
  resolved := Array.replicate 7 none
  statics := none }

def pool5 : Array CpInfo := pool [(2, .class_ 4), (1, u "java/lang/Enum"), (0, u "name"), (0, u "Ljava/lang/String;"), (2, u "ordinal"), (0, u "I"), (1, .class_ 14), (1, u "java/lang/Object"), (4, u "hash"), (86, .class_ 108), (1, u "java/lang/Enum$EnumDesc"), (2, .class_ 112), (0, u "java/lang/constant/Constable"), (0, .class_ 114), (0, u "java/lang/Comparable"), (0, .class_ 116), (0, u "java/io/Serializable")] 87

/-- java/lang/Enum -/
def k5 : Class := { plain "java/lang/Enum" (some 0) with
  accessFlags := 1057
  interfaces := #[2, 3, 4]
  cf := some (fileOf pool5 2 #[.nestMembers #[106]] #[] 1057 12 #[111, 113, 115] #[{ accessFlags := 18, nameIndex := 5, descriptorIndex := 6, attributes := #[] }, { accessFlags := 18, nameIndex := 9, descriptorIndex := 10, attributes := #[] }, { accessFlags := 2, nameIndex := 19, descriptorIndex := 10, attributes := #[] }])
  fields := #[{ name := "name", type := (.object "java/lang/String"), accessFlags := 18, slot := 0, constantValue := 0 }, { name := "ordinal", type := .int, accessFlags := 18, slot := 1, constantValue := 0 }, { name := "hash", type := .int, accessFlags := 2, slot := 2, constantValue := 0 }]
  methods := #[]
  instanceTypes := #[(.object "java/lang/String"), .int, .int]
  staticTypes := #[]
  resolved := Array.replicate 204 none
  statics := none }

def pool6 : Array CpInfo := pool [(1, .class_ 2), (0, u "com/example/hearsay/hearsay/sim/Placement"), (2, u "FILES"), (0, u "Lcom/example/hearsay/hearsay/sim/Placement;"), (2, u "UNIFORM"), (2, u "WEIBULL"), (2, u "$VALUES"), (0, u "[Lcom/example/hearsay/hearsay/sim/Placement;"), (6, .class_ 25), (1, u "java/lang/Enum"), (89, u "uniform"), (0, u "(II)[I")] 167

def k6c0 : Code := { maxStack := 6, maxLocals := 4, code := prog_80_method_6_code, exceptionTable := #[], attributes := #[] }
def k6m0 : Method := { name := "uniform", desc := "(II)[I", sig := { parameters := [.int, .int], returnType := some (.array .int) }, accessFlags := 8, code := some k6c0 }
/-- com/example/hearsay/hearsay/sim/Placement -/
def k6 : Class := { plain "com/example/hearsay/hearsay/sim/Placement" (some 5) with
  accessFlags := 16433
  interfaces := #[]
  cf := some (fileOf pool6 1 #[] #[{ accessFlags := 8, nameIndex := 115, descriptorIndex := 116, attributes := #[] }] 16433 23 #[] #[{ accessFlags := 16409, nameIndex := 5, descriptorIndex := 6, attributes := #[] }, { accessFlags := 16409, nameIndex := 9, descriptorIndex := 6, attributes := #[] }, { accessFlags := 16409, nameIndex := 12, descriptorIndex := 6, attributes := #[] }, { accessFlags := 4122, nameIndex := 15, descriptorIndex := 16, attributes := #[] }])
  fields := #[{ name := "FILES", type := (.object "com/example/hearsay/hearsay/sim/Placement"), accessFlags := 16409, slot := 0, constantValue := 0 }, { name := "UNIFORM", type := (.object "com/example/hearsay/hearsay/sim/Placement"), accessFlags := 16409, slot := 1, constantValue := 0 }, { name := "WEIBULL", type := (.object "com/example/hearsay/hearsay/sim/Placement"), accessFlags := 16409, slot := 2, constantValue := 0 }, { name := "$VALUES", type := (.array (.object "com/example/hearsay/hearsay/sim/Placement")), accessFlags := 4122, slot := 3, constantValue := 0 }]
  methods := #[k6m0]
  instanceTypes := #[(.object "java/lang/String"), .int, .int]
  staticTypes := #[(.object "com/example/hearsay/hearsay/sim/Placement"), (.object "com/example/hearsay/hearsay/sim/Placement"), (.object "com/example/hearsay/hearsay/sim/Placement"), (.array (.object "com/example/hearsay/hearsay/sim/Placement"))]
  resolved := Array.replicate 284 none
  statics := none }

def pool7 : Array CpInfo := pool [(1, u "java/lang/Cloneable"), (0, .class_ 1), (0, u "java/lang/Object"), (0, .class_ 3)] 3

/-- java/lang/Cloneable -/
def k7 : Class := { plain "java/lang/Cloneable" (some 0) with
  accessFlags := 1537
  interfaces := #[]
  cf := some (fileOf pool7 2 #[] #[] 1537 4 #[] #[])
  fields := #[]
  methods := #[]
  instanceTypes := #[]
  staticTypes := #[]
  resolved := Array.replicate 8 none
  statics := none }

/-- the primitive byte -/
def k8 : Class := { plain "byte" none with kind := .primitive 'B', accessFlags := 0x411 }
/-- [B -/
def k9 : Class := { plain "[B" (some 0) with kind := .array 8 .byte, interfaces := #[7, 4], accessFlags := 1041 }

/-- the primitive int -/
def k10 : Class := { plain "int" none with kind := .primitive 'I', accessFlags := 0x411 }
/-- [I -/
def k11 : Class := { plain "[I" (some 0) with kind := .array 10 .int, interfaces := #[7, 4], accessFlags := 1041 }

def heap : Heap := #[]
def classes : Array Class := #[k0, k1, k2, k3, k4, k5, k6, k7, k8, k9, k10, k11]
def interned : List (Array UInt16 × Addr) := []
def slotsUsed : Nat := 0
def theMethod : MethodId := ⟨1, 1⟩
def args0 : Array Value := #[.int 5, .int 3, .int 4]
def aboutOver (below : List Frame) : State where
  vm := { classes := classes, interned := interned.toArray }
  heap := heap
  slotsUsed := slotsUsed
  threads := #[{ frames := .invoking theMethod args0 :: below }]
def below0 : List Frame := [.native { method := ⟨0, 0⟩, args := #[] }]
def about1 : State := aboutOver below0
def p0 : Program := .bare "" "" ""
def e0 : Env := launch0.env 0 0 0
theorem w_frames : about1.frames = Frame.invoking theMethod args0 :: below0 := rfl
set_option maxRecDepth 65536 in
theorem w_args : argsFit about1.vm theMethod args0 = true := by decide +kernel
set_option maxRecDepth 65536 in
theorem w_heap : heapFits about1 = true := by decide +kernel
set_option maxRecDepth 65536 in
theorem w_runnable : about1.curStatus? = some .runnable := by decide +kernel
set_option maxRecDepth 65536 in
theorem w_alone : about1.alone = true := by decide +kernel
set_option maxRecDepth 65536 in
theorem w_named : about1.methodNamed? x = some theMethod := by decide +kernel
set_option maxRecDepth 65536 in
theorem w_hears : about1.hears theMethod below0 = true := by decide +kernel
set_option maxRecDepth 65536 in
theorem w_ripe : about1.ripe theMethod args0 below0 = true := by decide +kernel
theorem w_running : about1.status = .running := rfl
set_option maxRecDepth 65536 in
theorem w_room : about1.hasRoom e0.platform room_1 = true :=
  launch0.hasRoom_least _ room_1 (by decide +kernel) (by decide +kernel) (by decide +kernel) (by decide +kernel) (by decide +kernel) (by decide +kernel)
theorem allAtoms_all (ts : List Jvm.Cond) (a : Array Jvm.Value) (st : Jvm.State) : (allAtoms ts).before a st = ts.all (fun c => c.before a st) := by
  induction ts with
  | nil => rfl
  | cons c t ih =>
    show (Jvm.Cond.and c (allAtoms t)).before a st = _
    rw [Jvm.Cond.before_and, ih, List.all_cons]
def words1 : List Jvm.Cond := Jvm.Cond.code x code maxLocals ret :: tables_1
/-- a 'code' word, met by the world's own term for the bytes: nothing is compared byte by byte -/
theorem code_word {y : MethodName} {bytes : ByteArray} {mx : Nat} {rt : Option FieldType} {a : Array Value} {s : State} {m : MethodId} {meth : Method} {c : Code} (h1 : s.methodNamed? y = some m) (h2 : s.vm.method? m = some meth) (h3 : meth.code = some c) (h4 : c.code = bytes)
    (h5 : (c.maxLocals == mx && c.exceptionTable.isEmpty && decide (c.maxStack ≤ mostOperands) && decide (meth.sig.returnType = rt) && !meth.locks && decide (parseMethodDescriptor y.desc = some meth.sig)) = true) : (Jvm.Cond.code y bytes mx rt).before a s = true := by
  simp only [Bool.and_eq_true, beq_iff_eq, Bool.not_eq_true', decide_eq_true_eq] at h5
  obtain ⟨⟨⟨⟨⟨g1, g2⟩, g3⟩, g4⟩, g5⟩, g6⟩ := h5
  simp [Cond.before, Cond.holds, Cond.value, h1, h2, h3, h4, g1, g2, g3, g4, g5, g6]
def isCode : Jvm.Cond → Bool
  | .code _ _ _ _ => true
  | _ => false
theorem all_split {L : List Jvm.Cond} {P : Jvm.Cond → Bool} (h1 : L.all (fun c => isCode c || P c) = true) (h2 : ∀ c ∈ L.filter isCode, P c = true) : L.all P = true := by
  refine List.all_eq_true.mpr fun c hc => ?_
  have h := List.all_eq_true.mp h1 c hc
  rcases Bool.eq_false_or_eq_true (isCode c) with hi | hi
  · exact h2 c (List.mem_filter.mpr ⟨hc, hi⟩)
  · simpa [hi] using h
set_option maxRecDepth 65536 in
theorem w_c0 : (Jvm.Cond.code x code maxLocals ret).before args0 about1 = true := code_word (m := ⟨1, 1⟩) (meth := k1m1) (c := k1c1) (by decide +kernel) rfl rfl rfl (by decide +kernel)
set_option maxRecDepth 65536 in
theorem w_c1 : (Jvm.Cond.code ({ cls := "com/example/hearsay/hearsay/sim/Placement", name := "uniform", desc := "(II)[I" } : Jvm.MethodName) prog_80_method_6_code (4 : Nat) (Option.some (Jvm.ClassFile.FieldType.array Jvm.ClassFile.FieldType.int))).before args0 about1 = true := code_word (m := ⟨6, 0⟩) (meth := k6m0) (c := k6c0) (by decide +kernel) rfl rfl rfl (by decide +kernel)
def codes1 : List Jvm.Cond := [Jvm.Cond.code x code maxLocals ret, Jvm.Cond.code ({ cls := "com/example/hearsay/hearsay/sim/Placement", name := "uniform", desc := "(II)[I" } : Jvm.MethodName) prog_80_method_6_code (4 : Nat) (Option.some (Jvm.ClassFile.FieldType.array Jvm.ClassFile.FieldType.int))]
set_option maxRecDepth 65536 in
theorem codes_eq : words1.filter isCode = codes1 := rfl
theorem w_codes : ∀ c ∈ words1.filter isCode, c.before args0 about1 = true := by
  rw [codes_eq]
  intro c hc
  simp only [codes1, List.mem_cons, List.not_mem_nil, or_false] at hc
  rcases hc with rfl | rfl
  · exact w_c0
  · exact w_c1
set_option maxRecDepth 65536 in
theorem w_t1 : words1.all (fun c => isCode c || c.before args0 about1) = true := by decide +kernel
theorem w_tables : (allAtoms (Jvm.Cond.code x code maxLocals ret :: tables_1)).before args0 about1 = true := by
  rw [allAtoms_all]
  show words1.all (fun c => c.before args0 about1) = true
  refine all_split ?_ w_codes
  rw [w_t1]
set_option maxRecDepth 65536 in
theorem w_case : (Jvm.Cond.and given_1 narrow_1).before args0 about1 = true := by decide +kernel
theorem w_applies : (headSpec (Jvm.Cond.code x code maxLocals ret :: tables_1) room_1).applies x e0.platform about1 = true :=
  (Spec.applies_iff w_frames).mpr ⟨w_running, w_runnable, w_alone, w_named, w_hears, w_ripe, w_room, w_tables⟩
theorem atStart : AtStart classFile x code maxLocals ret World_1 tables_1 room_1 Calls_1 rest_1 Pre_1 launch0 p0 e0 about1 theMethod args0 below0 :=
  ⟨lists_1, trivial, launch0.admits_env _ _ _, launch0.least_env, fairChoices_fair.cas, fairChoices_fair.clock, w_frames, w_args, w_heap, w_applies, trivial, trivial, w_case⟩
end start1
theorem witness_1 : WitnessClaimed_1 := ⟨start1.p0, start1.e0, start1.about1, start1.theMethod, start1.args0, start1.below0, start1.atStart⟩
end Jvm.Pilot.@@N@@
