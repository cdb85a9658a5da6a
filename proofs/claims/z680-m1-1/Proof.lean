import JvmDerived
import JvmDerived.Pilot.@@N@@Statement
import JvmDerived.Pilot.@@N@@Code
set_option linter.unusedVariables false
set_option linter.unusedSimpArgs false
namespace Jvm.Pilot.@@N@@
open Jvm Jvm.ClassFile Sem Op Lib Jvm.Free Jvm.Stand Jvm.LawKit Jvm.RoadKit Bundle Jvm.Pilot.@@N@@.Jvm.D
section Own
variable {p : Program} {l : Launch} {e : Env} {R : Room} {s : State} {m : MethodId} {args : Array Value} {below : List Frame} {meth : Method} {c : Code} {T : State} {locs : List Loc} {cells slots : Nat} {Z : State} {a0 : Array Value} {h h' : Heap}
theorem own_hb {c : ClassFile.Code} {code : ByteArray} (h : c.code = code) {pc : Nat} {r : Except ClassFile.DecodeError (ClassFile.Instr × Nat)} (h2 : ClassFile.decode code pc = r) : ClassFile.decode c.code pc = r := h ▸ h2
/-- from S the run comes to an end of the method of which QQ holds -/
def own_Go (p : Program) (e : Env) (below : List Frame) (S : State) (QQ : Outcome → State → Prop) : Prop :=
  ∃ s₂ o, Steps p.tables e below S s₂ ∧ s₂.status = .running ∧ Ended s₂ below o ∧ QQ o s₂
theorem own_Go.of {S S' : State} {QQ : Outcome → State → Prop} (h : ∀ t, Steps p.tables e below S' t → Steps p.tables e below S t) (g : own_Go p e below S' QQ) : own_Go p e below S QQ := by
  obtain ⟨a, b, h1, h2⟩ := g
  exact ⟨a, b, h _ h1, h2⟩
/-- how a walked body ends: it returns v, with Q of the value, the heap and the places written -/
def own_End (s : State) (Q : Option Value → Heap → List Loc → Prop) (C K : Nat) : Outcome → State → Prop :=
  fun o U' => ∃ v L, o = .returned v ∧ Q v U'.heap L ∧ FrameEnd s o U' L C K
/-- the contract of a body, as RoadKit.backOf takes it -/
abbrev own_Met (l : Launch) (Z : State) (h0 : Heap) (y : MethodName) (bytes : ByteArray) (maxL : Nat) (ret : Option FieldType) (ws : List Jvm.Cond) (rm : Room) (as' : Array Value) (Q : Option Value → Heap → List Loc → Prop) : Prop :=
  MetFree l y (head1 (Jvm.Cond.code y bytes maxL ret :: ws) rm) (fun a U => a = as' ∧ Z.Warmed39 U.vm ∧ U.heap = h0) (fun _ _ _ _ _ => True) (fun _ U o U' => ∃ v L, o = .returned v ∧ Q v U'.heap L ∧ FrameEnd U o U' L rm.cells rm.slots)
theorem own_enter {h0 : Heap} {y : MethodName} {bytes : ByteArray} {maxL : Nat} {ret : Option FieldType} {ws : List Jvm.Cond} {rm : Room} {as' : Array Value} {Q : Option Value → Heap → List Loc → Prop} (hpl : plainFor y = true)
    (body : ∀ (p : Program) (e : Env) (s : State) (m : MethodId) (below : List Frame) (meth : Method) (c : Code) (T0 : State), Stand p l e rm s m as' below meth c T0 [] 0 0 → p.tables.exec = Jvm.exec → c.code = bytes → c.maxLocals = maxL → meth.sig.returnType = ret → meth.locks = false → s.vm.findClass y.cls = some m.cls → meth.name = y.name → Z.Warmed39 s.vm → T0.heap = h0 →
      own_Go p e below (T0.setTop (entryFrame m as' maxL)) (own_End s Q rm.cells rm.slots)) : own_Met l Z h0 y bytes maxL ret ws rm as' Q := by
  refine MetFree.of_bodySF hpl hisR ?_
  intro p e s m args below meth c s₁ Bd hml0 hP hK
  obtain ⟨rfl, hZ, hh⟩ := hP
  exact body p e s m below meth c s₁ (Stand.of_body Bd) Bd.exec Bd.bytes hml0 Bd.returns Bd.notSynchronized (findClass_of_methodNamed Bd.named) (name_of_methodNamed Bd.named Bd.method).1 hZ (by rw [← hh, Bd.state]; rfl)
theorem own_mono (X : Stand p l e R s m args below meth c T locs cells slots) {c' k' : Nat} (hc : cells ≤ c') (hk : slots ≤ k') : Stand p l e R s m args below meth c T locs c' k' :=
  ⟨X.admits, X.cas, X.clock, X.frames, X.room, X.hears, X.method, X.code, X.here, X.tail, X.warmed, X.limits, X.bytes, X.same.mono hc hk⟩
theorem own_leave (X : Stand p l e R s m args below meth c T locs cells slots) (hlk : meth.locks = false) {v : Option Value} {Q : Option Value → Heap → List Loc → Prop} {C K : Nat} {g : JFrame} (hv : meth.sig.returnType = none → v = none)
    (st : ∀ fs, (∀ (f : JFrame) (acts : List Action), f.method = m → f.locked = none → f.entered = [] → (doReturn e (T.setTop f) acts v).1 = T.setFrames fs) → Steps p.tables e below (T.setTop g) (T.setFrames fs))
    (eT : T.heap = h) (hQ : Q v h locs) (hc : cells ≤ C) (hk : slots ≤ K) : own_Go p e below (T.setTop g) (own_End s Q C K) := by
  obtain ⟨fs, hr, hrun, hended, hW, hsame⟩ := X.leave (v := v) hv hlk
  subst eT
  exact ⟨_, _, st fs hr, hrun, hended, v, locs, rfl, hQ, ⟨_, rfl⟩, hW, hsame.mono hc hk⟩
theorem own_retI (X : Stand p l e R s m args below meth c T locs cells slots) (hx : p.tables.exec = Jvm.exec) (hlk : meth.locks = false) {pc : Nat} {Ls : Array Slot} {z : Int32} {rest : List Value} {Q : Option Value → Heap → List Loc → Prop} {C K : Nat} (hret : meth.sig.returnType = some .int) (hd : decode c.code pc = .ok (.ireturn, 1))
    (eT : T.heap = h) (hQ : Q (some (.int z)) h locs) (hc : cells ≤ C) (hk : slots ≤ K) : own_Go p e below (T.setTop (mkF m pc Ls (.int z :: rest))) (own_End s Q C K) := by
  refine own_leave X hlk (fun q => by rw [hret] at q; cases q) (fun fs hl => ?_) eT hQ hc hk
  have hm' : T.vm.method? m = some meth := X.method'
  have hn : narrow .int (.int z) = .int z := rfl
  show Steps p.tables e below (T.setTop { method := m, pc := pc, locals := Ls, stack := _ :: rest, locked := none }) _
  jvm_step X.here [X.here.top, hx, hd, hm', hret, hn]
  first | (intro acts; rw [hl _ acts rfl rfl rfl]) | rw [hl _ _ rfl rfl rfl]
  exact Steps.refl _
theorem own_retN (X : Stand p l e R s m args below meth c T locs cells slots) (hx : p.tables.exec = Jvm.exec) (hlk : meth.locks = false) {pc : Nat} {Ls : Array Slot} {z : Int32} {t : FieldType} {rest : List Value} {Q : Option Value → Heap → List Loc → Prop} {C K : Nat} (hret : meth.sig.returnType = some t) (ht : t = .boolean ∨ t = .byte ∨ t = .char ∨ t = .short) (hd : decode c.code pc = .ok (.ireturn, 1))
    (eT : T.heap = h) (hQ : Q (some (.int (nar t z))) h locs) (hc : cells ≤ C) (hk : slots ≤ K) : own_Go p e below (T.setTop (mkF m pc Ls (.int z :: rest))) (own_End s Q C K) :=
  own_leave X hlk (fun q => by rw [hret] at q; cases q) (fun fs hl => retN X hx hret ht hd hl) eT hQ hc hk
theorem own_retV (X : Stand p l e R s m args below meth c T locs cells slots) (hx : p.tables.exec = Jvm.exec) (hlk : meth.locks = false) {pc : Nat} {Ls : Array Slot} {Q : Option Value → Heap → List Loc → Prop} {C K : Nat} (hret : meth.sig.returnType = none) (hd : decode c.code pc = .ok (.return_, 1))
    (eT : T.heap = h) (hQ : Q none h locs) (hc : cells ≤ C) (hk : slots ≤ K) : own_Go p e below (T.setTop (mkF m pc Ls [])) (own_End s Q C K) :=
  own_leave X hlk (fun _ => rfl) (fun fs hl => X.returnOut hx hret hd hl) eT hQ hc hk
theorem own_retJ (X : Stand p l e R s m args below meth c T locs cells slots) (hx : p.tables.exec = Jvm.exec) (hlk : meth.locks = false) {pc : Nat} {Ls : Array Slot} {z : Int64} {Q : Option Value → Heap → List Loc → Prop} {C K : Nat} (hret : meth.sig.returnType = some .long) (hd : decode c.code pc = .ok (.lreturn, 1))
    (eT : T.heap = h) (hQ : Q (some (.long z)) h locs) (hc : cells ≤ C) (hk : slots ≤ K) : own_Go p e below (T.setTop (mkF m pc Ls [.long z])) (own_End s Q C K) :=
  own_leave X hlk (fun q => by rw [hret] at q; cases q) (fun fs hl => X.lreturnOut hx hret hd hl) eT hQ hc hk
theorem own_retA (X : Stand p l e R s m args below meth c T locs cells slots) (hx : p.tables.exec = Jvm.exec) (hlk : meth.locks = false) {pc : Nat} {Ls : Array Slot} {v : Value} {t : FieldType} {rest : List Value} {Q : Option Value → Heap → List Loc → Prop} {C K : Nat} (hret : meth.sig.returnType = some t) (ht : t.isReference = true) (hv : v.isRef = true) (hd : decode c.code pc = .ok (.areturn, 1))
    (eT : T.heap = h) (hQ : Q (some v) h locs) (hc : cells ≤ C) (hk : slots ≤ K) : own_Go p e below (T.setTop (mkF m pc Ls (v :: rest))) (own_End s Q C K) := by
  refine own_leave X hlk (fun q => by rw [hret] at q; cases q) (fun fs hl => ?_) eT hQ hc hk
  have hm' : T.vm.method? m = some meth := X.method'
  show Steps p.tables e below (T.setTop { method := m, pc := pc, locals := Ls, stack := _ :: rest, locked := none }) _
  jvm_step X.here [X.here.top, hx, hd, hm', hret, ht, hv]
  first | (intro acts; rw [hl _ acts rfl rfl rfl]) | rw [hl _ _ rfl rfl rfl]
  exact Steps.refl _
/-! an array whose place i holds f i -/
def own_Ar (Z : State) (h : Heap) (a : Addr) (ty : FieldType) (n : Nat) (f : Nat → Value) : Prop :=
  n < 2 ^ 31 ∧ ∃ c : Cell, Arr Z h a c ty ∧ c.slots.size = n ∧ ∀ i, i < n → c.slots[i]? = some (f i) ∧ fits ty (f i) = true
def own_up (f : Nat → Value) (k : Nat) (v : Value) : Nat → Value := fun i => if i = k then v else f i
def own_I (g : Nat → Int32) : Nat → Value := fun j => .int (g j)
def own_set (g : Nat → Int32) (k : Nat) (x : Int32) : Nat → Int32 := fun j => if j = k then x else g j
theorem own_upI {g : Nat → Int32} {k : Nat} {x : Int32} : own_up (own_I g) k (.int x) = own_I (own_set g k x) := by
  funext j
  unfold own_up own_I own_set
  by_cases q : j = k
  · rw [if_pos q, if_pos q]
  · rw [if_neg q, if_neg q]
section Arrays
variable {a b : Addr} {ty : FieldType} {n k : Nat} {f : Nat → Value} {v : Value} {ws : List Addr} {sl : Nat} {j : Int32}
theorem own_Ar.lt (F : own_Ar Z h a ty n f) : a < h.size := by obtain ⟨_, c, A, _⟩ := F; exact A.lt
theorem own_Ar.ext (F : own_Ar Z h a ty n f) (E : Ext h h') : own_Ar Z h' a ty n f := by obtain ⟨q, c, A, r⟩ := F; exact ⟨q, c, A.ext E, r⟩
theorem own_Ar.other (F : own_Ar Z h b ty n f) (W : Wr h h' a sl v) (q : b ≠ a) : own_Ar Z h' b ty n f := by obtain ⟨q0, c, A, r⟩ := F; exact ⟨q0, c, A.other W q, r⟩
theorem own_Ar.keep (F : own_Ar Z h a ty n f) (K : Keep h h' ws) (q : a ∉ ws) : own_Ar Z h' a ty n f := by obtain ⟨q0, c, A, r⟩ := F; exact ⟨q0, c, ⟨K.2.1 a c A.1 q, A.2⟩, r⟩
theorem own_Ar.eqv {g : Nat → Value} (F : own_Ar Z h a ty n f) (q : ∀ i, i < n → f i = g i) : own_Ar Z h a ty n g := by
  obtain ⟨q0, c, A, r1, r2⟩ := F; exact ⟨q0, c, A, r1, fun i hi => by rw [← q i hi]; exact r2 i hi⟩
theorem own_Ar.eqvI {g g' : Nat → Int32} (F : own_Ar Z h a ty n (own_I g)) (q : ∀ i, i < n → g i = g' i) : own_Ar Z h a ty n (own_I g') := F.eqv fun i hi => by show Value.int _ = Value.int _; rw [q i hi]
theorem own_clamp (hk : k < 2 ^ 31) : (Int32.ofNat k).toNatClampNeg = k ∧ ¬ Int32.ofNat k < 0 := by
  have e : (Int32.ofNat k).toInt = (k : Int) := Int32.toInt_ofNat_of_lt hk
  refine ⟨?_, ?_⟩
  · show (Int32.ofNat k).toInt.toNat = k
    rw [e]; rfl
  · rw [Int32.lt_iff_toInt_lt, e]
    show ¬ ((k : Int) < 0)
    omega
theorem own_inb {cl : Cell} (S : cl.slots.size = n) (hn : n < 2 ^ 31) (e : j = Int32.ofNat k) (hk : k < n) : ¬ (j < 0 ∨ cl.slots.size ≤ j.toNatClampNeg) := by
  subst e
  obtain ⟨e1, e2⟩ := own_clamp (k := k) (by omega)
  rw [e1, S]
  rintro (q | q)
  · exact e2 q
  · omega
theorem own_Ar.get (F : own_Ar Z h a ty n f) (q : j = Int32.ofNat k ∧ k < n) : ∃ cl : Cell, Arr Z h a cl ty ∧ ¬ (j < 0 ∨ cl.slots.size ≤ j.toNatClampNeg) ∧ cl.slots[j.toNatClampNeg]? = some (f k) := by
  obtain ⟨hn, c, A, S, H⟩ := F
  refine ⟨c, A, own_inb S hn q.1 q.2, ?_⟩
  rw [q.1, (own_clamp (k := k) (by omega)).1]
  exact (H k q.2).1
theorem own_Ar.len (F : own_Ar Z h a ty n f) : ∃ cl : Cell, Arr Z h a cl ty ∧ cl.slots.size.toInt32 = Int32.ofNat n := by
  obtain ⟨hn, c, A, S, H⟩ := F
  refine ⟨c, A, ?_⟩
  rw [S]
theorem own_Ar.put (F : own_Ar Z h a ty n f) (q : j = Int32.ofNat k ∧ k < n) : ∃ cl : Cell, Arr Z h a cl ty ∧ ¬ (j < 0 ∨ cl.slots.size ≤ j.toNatClampNeg) ∧ ∀ {v : Value} {h' : Heap}, fits ty v = true → Wr h h' a j.toNatClampNeg v → own_Ar Z h' a ty n (own_up f k v) := by
  obtain ⟨hn, c, A, S, H⟩ := F
  refine ⟨c, A, own_inb S hn q.1 q.2, fun {v h'} hv W => ⟨hn, _, A.same W, by rw [sz_set]; exact S, fun i hi => ?_⟩⟩
  rw [q.1, (own_clamp (k := k) (by omega)).1]
  by_cases u : i = k
  · subst u
    simp [own_up, Cell.setSlot, S, hi, hv]
  · have u' : ¬ k = i := fun z => u z.symm
    simp only [own_up, u, if_false, Cell.setSlot, Array.getElem?_setIfInBounds, u']
    exact H i hi
theorem own_newP (X : Stand p l e R s m args below meth c T locs cells slots) (hx : p.tables.exec = Jvm.exec) (hZ : Z.Warmed39 s.vm) {aty : ArrayType} (w : (Cond.arrayClass (newarray.typeOf aty)).before a0 Z = true) (eT : T.heap = h) {g : JFrame} (hg : g.method = m) (hd : decode c.code g.pc = .ok (.newarray aty, 2)) {z : Int32} {rest : List Value} (hs : g.stack = .int z :: rest)
    {n cap : Nat} (hz : z = Int32.ofNat n) (hn : n ≤ cap) (hb : cap * 8 ≤ 536870912) (hc : cells + 1 ≤ R.cells) (hl : slots + cap ≤ R.slots) :
    ∃ T' h', Stand p l e R s m args below meth c T' locs (cells + 1) (slots + cap) ∧ T'.heap = h' ∧ Ext h h' ∧ own_Ar Z h' h.size (newarray.typeOf aty) n (fun _ => defaultValue (newarray.typeOf aty)) ∧
      ∀ target, Steps p.tables e below (T'.setTop { g with pc := g.pc + 2, stack := .ref h.size :: rest }) target → Steps p.tables e below (T.setTop g) target := by
  obtain ⟨e1, e2⟩ := own_clamp (k := n) (by omega)
  subst hz
  obtain ⟨T', h', cA, X', e', E, A, st⟩ := newP X hx hZ w eT hg hd hs e2 (cap := cap) (by rw [e1]; exact hn) hb hc hl
  refine ⟨T', h', X', e', E, ⟨by omega, _, A, by rw [sz_new, e1], fun i hi => ⟨?_, by cases aty <;> rfl⟩⟩, st⟩
  simp [newA, e1, hi]
end Arrays
theorem own_st1 {l : Array Slot} {i : Nat} {v : Value} {o : Slot} (hold : l[i]? = some o) (ho : o = .unset ∨ ∃ w, o = .val w ∧ w.category = 1) (hv : v.category = 1) : storeLocals l i v = some (l.setIfInBounds i (.val v)) := XS.store1 hold ho hv
/-- the cell at x stands as it stood -/
def own_Kx (h h' : Heap) (x : Addr) : Prop := h.size ≤ h'.size ∧ ∀ c : Cell, h[x]? = some c → h'[x]? = some c
section Kx
variable {x a : Addr} {h2 : Heap} {sl : Nat} {v : Value} {ws : List Addr}
theorem own_Kx.refl : own_Kx h h x := ⟨Nat.le_refl _, fun _ q => q⟩
theorem own_Kx.ext (K : own_Kx h h' x) (E : Ext h' h2) : own_Kx h h2 x := ⟨Nat.le_trans K.1 E.1, fun c q => E.2 _ _ (K.2 c q)⟩
theorem own_Kx.keep (K : own_Kx h h' x) (K' : Keep h' h2 ws) (q : x ∉ ws) : own_Kx h h2 x := ⟨Nat.le_trans K.1 K'.1, fun c r => K'.2.1 _ _ (K.2 c r) q⟩
theorem own_Kx.wr (K : own_Kx h h' x) (W : Wr h' h2 a sl v) (q : x ≠ a) : own_Kx h h2 x := K.keep (Keep.of_wr W) (ninS q nin0)
theorem own_Kx.trans (K : own_Kx h h' x) (K' : own_Kx h' h2 x) : own_Kx h h2 x := ⟨Nat.le_trans K.1 K'.1, fun c r => K'.2 _ (K.2 c r)⟩
theorem own_Ar.kx {ty : FieldType} {n : Nat} {f : Nat → Value} (F : own_Ar Z h x ty n f) (K : own_Kx h h' x) : own_Ar Z h' x ty n f := by obtain ⟨q0, c, A, r⟩ := F; exact ⟨q0, c, ⟨K.2 c A.1, A.2⟩, r⟩
def own_Lt (h : Heap) (x : Addr) : Prop := x < h.size
theorem own_Lt.lt (q : own_Lt h x) : x < h.size := q
theorem own_Lt.ext (q : own_Lt h x) (E : Ext h h') : own_Lt h' x := Nat.lt_of_lt_of_le q E.1
theorem own_Lt.keep (q : own_Lt h x) (K : Keep h h' ws) : own_Lt h' x := Nat.lt_of_lt_of_le q K.1
theorem own_Lt.wr (q : own_Lt h x) (W : Wr h h' a sl v) : own_Lt h' x := q.keep (Keep.of_wr W)
theorem own_Lt.kx {y : Addr} (q : own_Lt h x) (K : own_Kx h h' y) : own_Lt h' x := Nat.lt_of_lt_of_le q K.1
end Kx
/-! numbers: small naturals as ints -/
theorem own_toInt {a : Nat} (ha : a < 2 ^ 31) : (Int32.ofNat a).toInt = (a : Int) := Int32.toInt_ofNat_of_lt ha
theorem own_mask (x : Int32) (m : Nat) : ∃ k : Nat, k ≤ m ∧ (x &&& Int32.ofNat m) = Int32.ofNat k := by
  refine ⟨(x.toBitVec.toNat &&& (m % 2 ^ 32)), Nat.le_trans Nat.and_le_right (Nat.mod_le _ _), ?_⟩
  apply Int32.toBitVec_inj.mp
  apply BitVec.eq_of_toNat_eq
  rw [Int32.toBitVec_and, BitVec.toNat_and]
  show _ &&& (BitVec.ofNat 32 m).toNat = (BitVec.ofNat 32 _).toNat
  rw [BitVec.toNat_ofNat, BitVec.toNat_ofNat]
  rw [Nat.mod_eq_of_lt (a := _ &&& _)]
  exact Nat.lt_of_le_of_lt Nat.and_le_right (Nat.mod_lt _ (by decide))
theorem own_ltN {a b : Nat} (ha : a < 2 ^ 31) (hb : b < 2 ^ 31) : Int32.ofNat a < Int32.ofNat b ↔ a < b := by
  rw [Int32.lt_iff_toInt_lt, own_toInt ha, own_toInt hb]; omega
theorem own_eqN' {a b : Nat} (h : a = b) : Int32.ofNat a = Int32.ofNat b := by rw [h]
theorem own_eqN {a b : Nat} (ha : a < 2 ^ 31) (hb : b < 2 ^ 31) : Int32.ofNat a = Int32.ofNat b ↔ a = b := by
  constructor
  · intro h
    have h2 := congrArg Int32.toInt h
    rw [own_toInt ha, own_toInt hb] at h2; omega
  · exact own_eqN'
theorem own_addN (a b : Nat) : Int32.ofNat a + Int32.ofNat b = Int32.ofNat (a + b) := (Int32.ofNat_add a b).symm
theorem own_subN {a b : Nat} (h : b ≤ a) : Int32.ofNat a - Int32.ofNat b = Int32.ofNat (a - b) := by
  have h2 : Int32.ofNat a = Int32.ofNat (a - b) + Int32.ofNat b := by rw [own_addN]; congr 1; omega
  rw [h2, Int32.add_sub_cancel]
theorem own_nzN {a : Nat} (h0 : 0 < a) (ha : a < 2 ^ 31) : Int32.ofNat a ≠ (0 : Int32) := by
  intro h
  have h2 : Int32.ofNat a = Int32.ofNat 0 := h
  rw [own_eqN ha (by decide)] at h2; omega
theorem own_remN {a b : Nat} (ha : a < 2 ^ 31) (hb : b < 2 ^ 31) : (Int32.ofNat a - (Int32.ofNat a / Int32.ofNat b) * Int32.ofNat b) = Int32.ofNat (a % b) := by
  apply Int32.toInt_inj.mp
  have hm : a % b < 2 ^ 31 := Nat.lt_of_le_of_lt (Nat.mod_le _ _) ha
  rw [rem_toInt, own_toInt ha, own_toInt hb, own_toInt hm]
  exact (Int.ofNat_tmod a b).symm
theorem own_bm (x : Int) (h1 : -2147483648 ≤ x) (h2 : x < 2147483648) : x.bmod (2 ^ 32) = x := Int.bmod_eq_of_le (by omega) (by omega)
theorem own_bm64 (x : Int) (h1 : -9223372036854775808 ≤ x) (h2 : x < 9223372036854775808) : x.bmod (2 ^ 64) = x := Int.bmod_eq_of_le (by omega) (by omega)
end Own

def own_by (p0 p1 : Int32) : Nat → Int32 := own_set (own_set (own_set (own_set (own_set (own_set (fun _ => (0 : Int32)) 0 (nar .byte (p0.toInt8.toInt32))) 1 (nar .byte ((p0 >>> ((8 : Int32) &&& 31)).toInt8.toInt32))) 2 (nar .byte ((p0 >>> ((16 : Int32) &&& 31)).toInt8.toInt32))) 3 (nar .byte (((p0.toUInt32 >>> ((24 : Int32) &&& 31).toUInt32).toInt32).toInt8.toInt32))) 4 (nar .byte (p1.toInt8.toInt32))) 5 (nar .byte ((p1 >>> ((8 : Int32) &&& 31)).toInt8.toInt32))
def own_pw : Nat → Int32 := own_set (own_set (own_set (own_set (own_set (own_set (own_set (fun _ => (0 : Int32)) 0 (1 : Int32)) 1 (31 : Int32)) 2 (961 : Int32)) 3 (29791 : Int32)) 4 (923521 : Int32)) 5 (28629151 : Int32)) 6 (887503681 : Int32)
def own_t (fa : Nat → Int32) (i a b : Nat) : Int32 := if a ≤ i ∧ i < b then fa i * own_pw (b - 1 - i) else 0
/-- the hash when the places a .. a + k - 1 are taken in -/
def own_h (fa : Nat → Int32) (a : Nat) : Nat → Int32
  | 0 => 1
  | k + 1 => (31 : Int32) * own_h fa a k + fa (a + k)
theorem own_pw_s : ∀ k, k < 6 → own_pw (k + 1) = (31 : Int32) * own_pw k := by decide +kernel
theorem own_t_s (fa : Nat → Int32) {i a b : Nat} (hb : b < 6) (hi : i ≠ b) : own_t fa i a (b + 1) = (31 : Int32) * own_t fa i a b := by
  unfold own_t
  by_cases h : a ≤ i ∧ i < b
  · rw [if_pos h, if_pos ⟨h.1, by omega⟩, show b + 1 - 1 - i = (b - 1 - i) + 1 by omega, own_pw_s _ (by omega), ← Int32.mul_assoc, ← Int32.mul_assoc, Int32.mul_comm (fa i)]
  · rw [if_neg h, if_neg (by omega), Int32.mul_zero]
theorem own_t_n (fa : Nat → Int32) {a b : Nat} (hab : a ≤ b) : own_t fa b a (b + 1) = fa b := by
  unfold own_t
  rw [if_pos ⟨hab, Nat.lt_succ_self _⟩, show b + 1 - 1 - b = 0 by omega]
  exact Int32.mul_one _
theorem own_t_z (fa : Nat → Int32) {a b : Nat} : own_t fa b a b = 0 := by
  unfold own_t
  rw [if_neg (by omega)]
def own_R (fa : Nat → Int32) (a b : Nat) : Int32 := ((((((own_pw (b - a) + own_t fa 0 a b) + own_t fa 1 a b) + own_t fa 2 a b) + own_t fa 3 a b) + own_t fa 4 a b) + own_t fa 5 a b)
theorem own_R_s (fa : Nat → Int32) {a b : Nat} (hab : a ≤ b) (hb : b < 6) : own_R fa a (b + 1) = (31 : Int32) * own_R fa a b + fa b := by
  have hp : own_pw (b + 1 - a) = (31 : Int32) * own_pw (b - a) := by rw [show b + 1 - a = (b - a) + 1 by omega]; exact own_pw_s _ (by omega)
  have hz := own_t_z fa (a := a) (b := b)
  have hn := own_t_n fa hab
  unfold own_R
  rw [hp]
  obtain rfl | rfl | rfl | rfl | rfl | rfl : b = 0 ∨ b = 1 ∨ b = 2 ∨ b = 3 ∨ b = 4 ∨ b = 5 := by omega
  · rw [hn, hz, own_t_s fa (i := 1) hb (by decide), own_t_s fa (i := 2) hb (by decide), own_t_s fa (i := 3) hb (by decide), own_t_s fa (i := 4) hb (by decide), own_t_s fa (i := 5) hb (by decide)]
    simp only [Int32.mul_add, Int32.mul_zero, Int32.add_zero]
    ac_rfl
  · rw [hn, hz, own_t_s fa (i := 0) hb (by decide), own_t_s fa (i := 2) hb (by decide), own_t_s fa (i := 3) hb (by decide), own_t_s fa (i := 4) hb (by decide), own_t_s fa (i := 5) hb (by decide)]
    simp only [Int32.mul_add, Int32.mul_zero, Int32.add_zero]
    ac_rfl
  · rw [hn, hz, own_t_s fa (i := 0) hb (by decide), own_t_s fa (i := 1) hb (by decide), own_t_s fa (i := 3) hb (by decide), own_t_s fa (i := 4) hb (by decide), own_t_s fa (i := 5) hb (by decide)]
    simp only [Int32.mul_add, Int32.mul_zero, Int32.add_zero]
    ac_rfl
  · rw [hn, hz, own_t_s fa (i := 0) hb (by decide), own_t_s fa (i := 1) hb (by decide), own_t_s fa (i := 2) hb (by decide), own_t_s fa (i := 4) hb (by decide), own_t_s fa (i := 5) hb (by decide)]
    simp only [Int32.mul_add, Int32.mul_zero, Int32.add_zero]
    ac_rfl
  · rw [hn, hz, own_t_s fa (i := 0) hb (by decide), own_t_s fa (i := 1) hb (by decide), own_t_s fa (i := 2) hb (by decide), own_t_s fa (i := 3) hb (by decide), own_t_s fa (i := 5) hb (by decide)]
    simp only [Int32.mul_add, Int32.mul_zero, Int32.add_zero]
    ac_rfl
  · rw [hn, hz, own_t_s fa (i := 0) hb (by decide), own_t_s fa (i := 1) hb (by decide), own_t_s fa (i := 2) hb (by decide), own_t_s fa (i := 3) hb (by decide), own_t_s fa (i := 4) hb (by decide)]
    simp only [Int32.mul_add, Int32.mul_zero, Int32.add_zero]
theorem own_R_0 (fa : Nat → Int32) (a : Nat) : own_R fa a a = 1 := by
  have hz : ∀ i, own_t fa i a a = 0 := fun i => by unfold own_t; rw [if_neg (by omega)]
  unfold own_R
  rw [hz, hz, hz, hz, hz, hz, Nat.sub_self]
  rfl
theorem own_hash (fa : Nat → Int32) (a b : Nat) (hab : a ≤ b) (hb : b ≤ 6) : own_h fa a (b - a) = own_R fa a b := by
  obtain ⟨k, rfl⟩ : ∃ k, b = a + k := ⟨b - a, by omega⟩
  rw [show a + k - a = k by omega]
  induction k with
  | zero => exact (own_R_0 fa a).symm
  | succ k ih =>
    rw [show a + (k + 1) = (a + k) + 1 by omega, own_R_s fa (by omega) (by omega), ← ih (by omega) (by omega)]
    rfl
theorem d6_0 : decode jdk_41_method_12_code 0 = .ok (.iload_n 0, 1) := by decide +kernel
theorem d6_1 : decode jdk_41_method_12_code 1 = .ok (.ifCond .lt 13, 3) := by decide +kernel
theorem d6_4 : decode jdk_41_method_12_code 4 = .ok (.iload_n 0, 1) := by decide +kernel
theorem d6_5 : decode jdk_41_method_12_code 5 = .ok (.iload_n 1, 1) := by decide +kernel
theorem d6_6 : decode jdk_41_method_12_code 6 = .ok (.if_icmp .gt 8, 3) := by decide +kernel
theorem d6_9 : decode jdk_41_method_12_code 9 = .ok (.iload_n 1, 1) := by decide +kernel
theorem d6_10 : decode jdk_41_method_12_code 10 = .ok (.iload_n 2, 1) := by decide +kernel
theorem d6_11 : decode jdk_41_method_12_code 11 = .ok (.if_icmp .le 11, 3) := by decide +kernel
theorem d6_14 : decode jdk_41_method_12_code 14 = .ok (.aload_n 3, 1) := by decide +kernel
theorem d6_15 : decode jdk_41_method_12_code 15 = .ok (.iload_n 0, 1) := by decide +kernel
theorem d6_16 : decode jdk_41_method_12_code 16 = .ok (.iload_n 1, 1) := by decide +kernel
theorem d6_17 : decode jdk_41_method_12_code 17 = .ok (.iload_n 2, 1) := by decide +kernel
theorem d6_18 : decode jdk_41_method_12_code 18 = .ok (.invokestatic 99, 3) := by decide +kernel
theorem d6_21 : decode jdk_41_method_12_code 21 = .ok (.athrow, 1) := by decide +kernel
theorem d6_22 : decode jdk_41_method_12_code 22 = .ok (.iload_n 0, 1) := by decide +kernel
theorem d6_23 : decode jdk_41_method_12_code 23 = .ok (.ireturn, 1) := by decide +kernel
theorem pn_6 : plainName "jdk/internal/util/Preconditions" = true := by first | (simp [plainName, overriddenIn]; done) | decide +kernel
def Q_rm6 (Z : State) (a : Nat) (b : Nat) (n : Nat) (h0 : Heap) (n0 : Nat) (v : Option Value) (h : Heap) (L : List Loc) : Prop := v = some (.int (Int32.ofNat a)) ∧ Fr n0 L ∧ h = h0
set_option maxRecDepth 65536 in
set_option maxHeartbeats 40000000 in
theorem rm6 (l : Launch) (Z : State) (a0 : Array Value) (hw : ∀ d ∈ tables_1, d.before a0 Z = true) (ws : List Jvm.Cond) (a : Nat) (b : Nat) (n : Nat) (h0 : Heap) (n0 : Nat) (Z0 : n0 ≤ h0.size) (hab : a ≤ b) (hbn : b ≤ n) (hn : n < 2 ^ 31) :
    own_Met l Z h0 (⟨"jdk/internal/util/Preconditions", "checkFromToIndex", "(IIILjava/util/function/BiFunction;)I"⟩ : MethodName) jdk_41_method_12_code 4 (some .int) ws ({ frames := 0, cells := 0, slots := 0, locals := 0 } : Room) #[(.int (Int32.ofNat a)), (.int (Int32.ofNat b)), (.int (Int32.ofNat n)), .null] (Q_rm6 Z a b n h0 n0) := by
  refine own_enter (plainFor_of_name pn_6) ?_
  intro p e s m below meth c T0 X0 hx hby hml hret hlk hown hnm hZ e0
  have N0 := Fr.nil n0
  rw [show entryFrame m #[(.int (Int32.ofNat a)), (.int (Int32.ofNat b)), (.int (Int32.ofNat n)), .null] 4 = (mkF m 0 #[.val (.int (Int32.ofNat a)), .val (.int (Int32.ofNat b)), .val (.int (Int32.ofNat n)), .val .null] []) from by first | (simp [entryFrame, mkF, argsToLocals, Value.category]; done) | rfl]
  refine own_Go.of (S' := (T0.setTop (mkF m 23 #[.val (.int (Int32.ofNat a)), .val (.int (Int32.ofNat b)), .val (.int (Int32.ofNat n)), .val .null] [(.int (Int32.ofNat a))]))) (fun t kt => ?_) ?_
  · show Steps p.tables e below (T0.setTop (mkF m 0 #[.val (.int (Int32.ofNat a)), .val (.int (Int32.ofNat b)), .val (.int (Int32.ofNat n)), .val .null] [])) _
    refine XS.iloadN X0.here hx rfl (own_hb hby d6_0) rfl ?_
    show Steps p.tables e below (T0.setTop (mkF m 1 #[.val (.int (Int32.ofNat a)), .val (.int (Int32.ofNat b)), .val (.int (Int32.ofNat n)), .val .null] [(.int (Int32.ofNat a))])) _
    refine XS.ifNo X0.here hx rfl (own_hb hby d6_1) rfl ((if0 _ _).trans (flt (fun q => by have h2 := (own_ltN (b := 0) (by omega) (by decide)).mp q; omega)).1) ?_
    show Steps p.tables e below (T0.setTop (mkF m 4 #[.val (.int (Int32.ofNat a)), .val (.int (Int32.ofNat b)), .val (.int (Int32.ofNat n)), .val .null] [])) _
    refine XS.iloadN X0.here hx rfl (own_hb hby d6_4) rfl ?_
    show Steps p.tables e below (T0.setTop (mkF m 5 #[.val (.int (Int32.ofNat a)), .val (.int (Int32.ofNat b)), .val (.int (Int32.ofNat n)), .val .null] [(.int (Int32.ofNat a))])) _
    refine XS.iloadN X0.here hx rfl (own_hb hby d6_5) rfl ?_
    show Steps p.tables e below (T0.setTop (mkF m 6 #[.val (.int (Int32.ofNat a)), .val (.int (Int32.ofNat b)), .val (.int (Int32.ofNat n)), .val .null] [(.int (Int32.ofNat b)), (.int (Int32.ofNat a))])) _
    refine XS.icmpNo X0.here hx rfl (own_hb hby d6_6) rfl (flt (fun q => by have h2 := (own_ltN (by omega) (by omega)).mp q; omega)).2.2.1 ?_
    show Steps p.tables e below (T0.setTop (mkF m 9 #[.val (.int (Int32.ofNat a)), .val (.int (Int32.ofNat b)), .val (.int (Int32.ofNat n)), .val .null] [])) _
    refine XS.iloadN X0.here hx rfl (own_hb hby d6_9) rfl ?_
    show Steps p.tables e below (T0.setTop (mkF m 10 #[.val (.int (Int32.ofNat a)), .val (.int (Int32.ofNat b)), .val (.int (Int32.ofNat n)), .val .null] [(.int (Int32.ofNat b))])) _
    refine XS.iloadN X0.here hx rfl (own_hb hby d6_10) rfl ?_
    show Steps p.tables e below (T0.setTop (mkF m 11 #[.val (.int (Int32.ofNat a)), .val (.int (Int32.ofNat b)), .val (.int (Int32.ofNat n)), .val .null] [(.int (Int32.ofNat n)), (.int (Int32.ofNat b))])) _
    refine XS.icmpYes X0.here hx rfl (pc0 := 11) (pc' := 22) rfl (own_hb hby d6_11) rfl (flt (fun q => by have h2 := (own_ltN (by omega) (by omega)).mp q; omega)).2.2.2 (by decide) (by decide) ?_
    show Steps p.tables e below (T0.setTop (mkF m 22 #[.val (.int (Int32.ofNat a)), .val (.int (Int32.ofNat b)), .val (.int (Int32.ofNat n)), .val .null] [])) _
    refine XS.iloadN X0.here hx rfl (own_hb hby d6_22) rfl ?_
    exact kt
  exact own_retI X0 hx hlk hret (own_hb hby d6_23) e0 ⟨rfl, N0, rfl⟩ (by decide) (by decide)
theorem d5_0 : decode jdk_31_method_18_code 0 = .ok (.iload_n 0, 1) := by decide +kernel
theorem d5_1 : decode jdk_31_method_18_code 1 = .ok (.iload_n 1, 1) := by decide +kernel
theorem d5_2 : decode jdk_31_method_18_code 2 = .ok (.iload_n 2, 1) := by decide +kernel
theorem d5_3 : decode jdk_31_method_18_code 3 = .ok (.aconst_null, 1) := by decide +kernel
theorem d5_4 : decode jdk_31_method_18_code 4 = .ok (.invokestatic 111, 3) := by decide +kernel
theorem d5_7 : decode jdk_31_method_18_code 7 = .ok (.ireturn, 1) := by decide +kernel
theorem pn_5 : plainName "java/util/Objects" = true := by first | (simp [plainName, overriddenIn]; done) | decide +kernel
theorem pd_0 : parseMethodDescriptor "(IIILjava/util/function/BiFunction;)I" = some ⟨[.int, .int, .int, (.object "java/util/function/BiFunction")], some .int⟩ := by decide +kernel
def Q_rm5 (Z : State) (a : Nat) (b : Nat) (n : Nat) (h0 : Heap) (n0 : Nat) (v : Option Value) (h : Heap) (L : List Loc) : Prop := v = some (.int (Int32.ofNat a)) ∧ Fr n0 L ∧ h = h0
set_option maxRecDepth 65536 in
set_option maxHeartbeats 40000000 in
theorem rm5 (l : Launch) (Z : State) (a0 : Array Value) (hw : ∀ d ∈ tables_1, d.before a0 Z = true) (ws : List Jvm.Cond) (a : Nat) (b : Nat) (n : Nat) (h0 : Heap) (n0 : Nat) (Z0 : n0 ≤ h0.size) (hab : a ≤ b) (hbn : b ≤ n) (hn : n < 2 ^ 31) :
    own_Met l Z h0 (⟨"java/util/Objects", "checkFromToIndex", "(III)I"⟩ : MethodName) jdk_31_method_18_code 3 (some .int) ws ({ frames := 1, cells := 0, slots := 0, locals := 15 } : Room) #[(.int (Int32.ofNat a)), (.int (Int32.ofNat b)), (.int (Int32.ofNat n))] (Q_rm5 Z a b n h0 n0) := by
  refine own_enter (plainFor_of_name pn_5) ?_
  intro p e s m below meth c T0 X0 hx hby hml hret hlk hown hnm hZ e0
  have N0 := Fr.nil n0
  rw [show entryFrame m #[(.int (Int32.ofNat a)), (.int (Int32.ofNat b)), (.int (Int32.ofNat n))] 3 = (mkF m 0 #[.val (.int (Int32.ofNat a)), .val (.int (Int32.ofNat b)), .val (.int (Int32.ofNat n))] []) from by first | (simp [entryFrame, mkF, argsToLocals, Value.category]; done) | rfl]
  refine own_Go.of (S' := (T0.setTop (mkF m 4 #[.val (.int (Int32.ofNat a)), .val (.int (Int32.ofNat b)), .val (.int (Int32.ofNat n))] [.null, (.int (Int32.ofNat n)), (.int (Int32.ofNat b)), (.int (Int32.ofNat a))]))) (fun t kt => ?_) ?_
  · show Steps p.tables e below (T0.setTop (mkF m 0 #[.val (.int (Int32.ofNat a)), .val (.int (Int32.ofNat b)), .val (.int (Int32.ofNat n))] [])) _
    refine XS.iloadN X0.here hx rfl (own_hb hby d5_0) rfl ?_
    show Steps p.tables e below (T0.setTop (mkF m 1 #[.val (.int (Int32.ofNat a)), .val (.int (Int32.ofNat b)), .val (.int (Int32.ofNat n))] [(.int (Int32.ofNat a))])) _
    refine XS.iloadN X0.here hx rfl (own_hb hby d5_1) rfl ?_
    show Steps p.tables e below (T0.setTop (mkF m 2 #[.val (.int (Int32.ofNat a)), .val (.int (Int32.ofNat b)), .val (.int (Int32.ofNat n))] [(.int (Int32.ofNat b)), (.int (Int32.ofNat a))])) _
    refine XS.iloadN X0.here hx rfl (own_hb hby d5_2) rfl ?_
    show Steps p.tables e below (T0.setTop (mkF m 3 #[.val (.int (Int32.ofNat a)), .val (.int (Int32.ofNat b)), .val (.int (Int32.ofNat n))] [(.int (Int32.ofNat n)), (.int (Int32.ofNat b)), (.int (Int32.ofNat a))])) _
    refine XS.aconstNull X0.here hx rfl (own_hb hby d5_3) ?_
    exact kt
  obtain ⟨_, _, ⟨T1, L1, k1, n1⟩, -, X1, ⟨Lc1, hQ1, l1, y1, z1⟩, st1⟩ := Jvm.LawKit.callS X0 hx (y := (⟨"jdk/internal/util/Preconditions", "checkFromToIndex", "(IIILjava/util/function/BiFunction;)I"⟩ : MethodName)) hown (mvT hZ (hw _ (List.mem_of_getElem? (i := 28) rfl))) (mvT hZ (hw _ (List.mem_of_getElem? (i := 29) rfl))) (mvT hZ (hw _ (List.mem_of_getElem? (i := 30) rfl))) (mvT hZ (hw _ (List.mem_of_getElem? (i := 31) rfl))) (by decide) (backOf (W := 0) (rm6 l Z a0 hw [] a b n h0 n0 Z0 hab hbn hn) hZ (hw _ (List.mem_of_getElem? (i := 31) rfl)) (hw _ (List.mem_of_getElem? (i := 30) rfl)) (by decide) (by decide)) (g := (mkF m 4 #[.val (.int (Int32.ofNat a)), .val (.int (Int32.ofNat b)), .val (.int (Int32.ofNat n))] [.null, (.int (Int32.ofNat n)), (.int (Int32.ofNat b)), (.int (Int32.ofNat a))])) rfl (by rw [hml]; rfl) (argsL := [(.int (Int32.ofNat a)), (.int (Int32.ofNat b)), (.int (Int32.ofNat n)), .null]) (rest := []) (lenOf pd_0 rfl) rfl (by show 2 * 0 + _ ≤ _; exact Nat.le_of_eq rfl) (own_hb hby d5_4) (fun _ _ => ⟨rfl, e0, (by decide : 0 + 0 ≤ _), (by decide : 0 + 0 ≤ _)⟩)
  dsimp only [Pt.U, Pt.locs, Pt.cells, Pt.slots] at X1 l1 y1 z1 st1 hQ1
  subst l1 y1 z1
  obtain ⟨rfl, N1q, hh1⟩ := hQ1
  have N1 := Fr.app N0 N1q
  refine own_Go.of (S' := (T1.setTop (mkF m 7 #[.val (.int (Int32.ofNat a)), .val (.int (Int32.ofNat b)), .val (.int (Int32.ofNat n))] [(.int (Int32.ofNat a))]))) (fun t kt => st1 t kt) ?_
  exact own_retI X1 hx hlk hret (own_hb hby d5_7) hh1 ⟨rfl, N1, rfl⟩ (by decide) (by decide)
theorem d3_0 : decode jdk_30_method_1_code 0 = .ok (.aload_n 0, 1) := by decide +kernel
theorem d3_1 : decode jdk_30_method_1_code 1 = .ok (.invokespecial 1, 3) := by decide +kernel
theorem d3_4 : decode jdk_30_method_1_code 4 = .ok (.return_, 1) := by decide +kernel
theorem pn_3 : plainName "java/lang/Record" = true := by first | (simp [plainName, overriddenIn]; done) | decide +kernel
def Q_rm3 (Z : State) (o : Addr) (h0 : Heap) (n0 : Nat) (v : Option Value) (h : Heap) (L : List Loc) : Prop := v = none ∧ Fr n0 L ∧ h = h0
set_option maxRecDepth 65536 in
set_option maxHeartbeats 40000000 in
theorem rm3 (l : Launch) (Z : State) (a0 : Array Value) (hw : ∀ d ∈ tables_1, d.before a0 Z = true) (ws : List Jvm.Cond) (o : Addr) (h0 : Heap) (n0 : Nat) (Z0 : n0 ≤ h0.size)  :
    own_Met l Z h0 (⟨"java/lang/Record", "<init>", "()V"⟩ : MethodName) jdk_30_method_1_code 1 none ws ({ frames := 1, cells := 0, slots := 0, locals := 12 } : Room) #[(.ref o)] (Q_rm3 Z o h0 n0) := by
  refine own_enter (plainFor_of_name pn_3) ?_
  intro p e s m below meth c T0 X0 hx hby hml hret hlk hown hnm hZ e0
  have N0 := Fr.nil n0
  rw [show entryFrame m #[(.ref o)] 1 = (mkF m 0 #[.val (.ref o)] []) from by first | (simp [entryFrame, mkF, argsToLocals, Value.category]; done) | rfl]
  refine own_Go.of (S' := (T0.setTop (mkF m 1 #[.val (.ref o)] [(.ref o)]))) (fun t kt => ?_) ?_
  · show Steps p.tables e below (T0.setTop (mkF m 0 #[.val (.ref o)] [])) _
    refine XS.aloadN X0.here hx rfl (own_hb hby d3_0) rfl rfl ?_
    exact kt
  obtain ⟨T2, X2, e2, st2⟩ := initO X0 hx hZ hown (hw _ (List.mem_of_getElem? (i := 21) rfl)) (hw _ (List.mem_of_getElem? (i := 22) rfl)) (hw _ (List.mem_of_getElem? (i := 23) rfl)) e0 (g := (mkF m 1 #[.val (.ref o)] [(.ref o)])) rfl (by rw [hml]; rfl) rfl (own_hb hby d3_1) (by decide) (W := 0) (by show 2 * 0 + _ ≤ _; exact Nat.le_of_eq rfl) (by decide)
  refine own_Go.of (S' := (T2.setTop (mkF m 4 #[.val (.ref o)] []))) st2 ?_
  exact own_retV X2 hx hlk hret (own_hb hby d3_4) e2 ⟨rfl, N0, rfl⟩ (by decide) (by decide)
theorem d2_0 : decode prog_80_method_1_code 0 = .ok (.aload_n 0, 1) := by decide +kernel
theorem d2_1 : decode prog_80_method_1_code 1 = .ok (.invokespecial 1, 3) := by decide +kernel
theorem d2_4 : decode prog_80_method_1_code 4 = .ok (.iload_n 2, 1) := by decide +kernel
theorem d2_5 : decode prog_80_method_1_code 5 = .ok (.iload_n 3, 1) := by decide +kernel
theorem d2_6 : decode prog_80_method_1_code 6 = .ok (.aload_n 1, 1) := by decide +kernel
theorem d2_7 : decode prog_80_method_1_code 7 = .ok (.arraylength, 1) := by decide +kernel
theorem d2_8 : decode prog_80_method_1_code 8 = .ok (.invokestatic 7, 3) := by decide +kernel
theorem d2_11 : decode prog_80_method_1_code 11 = .ok (.pop, 1) := by decide +kernel
theorem d2_12 : decode prog_80_method_1_code 12 = .ok (.aload_n 0, 1) := by decide +kernel
theorem d2_13 : decode prog_80_method_1_code 13 = .ok (.aload_n 1, 1) := by decide +kernel
theorem d2_14 : decode prog_80_method_1_code 14 = .ok (.putfield 13, 3) := by decide +kernel
theorem d2_17 : decode prog_80_method_1_code 17 = .ok (.aload_n 0, 1) := by decide +kernel
theorem d2_18 : decode prog_80_method_1_code 18 = .ok (.iload_n 2, 1) := by decide +kernel
theorem d2_19 : decode prog_80_method_1_code 19 = .ok (.putfield 19, 3) := by decide +kernel
theorem d2_22 : decode prog_80_method_1_code 22 = .ok (.aload_n 0, 1) := by decide +kernel
theorem d2_23 : decode prog_80_method_1_code 23 = .ok (.iload_n 3, 1) := by decide +kernel
theorem d2_24 : decode prog_80_method_1_code 24 = .ok (.putfield 23, 3) := by decide +kernel
theorem d2_27 : decode prog_80_method_1_code 27 = .ok (.return_, 1) := by decide +kernel
theorem pn_2 : plainName "com/example/gridwire/gridwire/store/ByteSpan" = true := by first | (simp [plainName, overriddenIn]; done) | decide +kernel
theorem pd_1 : parseMethodDescriptor "()V" = some ⟨[], none⟩ := by decide +kernel
theorem pd_2 : parseMethodDescriptor "(III)I" = some ⟨[.int, .int, .int], some .int⟩ := by decide +kernel
def Q_rm2 (Z : State) (o : Addr) (r : Addr) (a : Nat) (b : Nat) (n : Nat) (f : Nat → Value) (u1 : Value) (u2 : Value) (u3 : Value) (h0 : Heap) (n0 : Nat) (v : Option Value) (h : Heap) (L : List Loc) : Prop := v = none ∧ Fr n0 L ∧ Keep h0 h [o] ∧ (Exa Z h o "com/example/gridwire/gridwire/store/ByteSpan") ∧ (Fld Z h o "com/example/gridwire/gridwire/store/ByteSpan" "array" "[B" (.ref r)) ∧ (Fld Z h o "com/example/gridwire/gridwire/store/ByteSpan" "from" "I" (.int (Int32.ofNat a))) ∧ (Fld Z h o "com/example/gridwire/gridwire/store/ByteSpan" "to" "I" (.int (Int32.ofNat b)))
set_option maxRecDepth 65536 in
set_option maxHeartbeats 40000000 in
theorem rm2 (l : Launch) (Z : State) (a0 : Array Value) (hw : ∀ d ∈ tables_1, d.before a0 Z = true) (ws : List Jvm.Cond) (o : Addr) (r : Addr) (a : Nat) (b : Nat) (n : Nat) (f : Nat → Value) (u1 : Value) (u2 : Value) (u3 : Value) (h0 : Heap) (n0 : Nat) (Z0 : n0 ≤ h0.size) (pr0 : Exa Z h0 o "com/example/gridwire/gridwire/store/ByteSpan") (pr1 : Fld Z h0 o "com/example/gridwire/gridwire/store/ByteSpan" "array" "[B" u1) (pr2 : Fld Z h0 o "com/example/gridwire/gridwire/store/ByteSpan" "from" "I" u2) (pr3 : Fld Z h0 o "com/example/gridwire/gridwire/store/ByteSpan" "to" "I" u3) (pr4 : own_Ar Z h0 r .byte n f) (pr5 : n0 ≤ o) (pr6 : r ≠ o) (hab : a ≤ b) (hbn : b ≤ n) (hn : n < 2 ^ 31) :
    own_Met l Z h0 (⟨"com/example/gridwire/gridwire/store/ByteSpan", "<init>", "([BII)V"⟩ : MethodName) prog_80_method_1_code 4 none ws ({ frames := 2, cells := 0, slots := 0, locals := 29 } : Room) #[(.ref o), (.ref r), (.int (Int32.ofNat a)), (.int (Int32.ofNat b))] (Q_rm2 Z o r a b n f u1 u2 u3 h0 n0) := by
  refine own_enter (plainFor_of_name pn_2) ?_
  intro p e s m below meth c T0 X0 hx hby hml hret hlk hown hnm hZ e0
  have N0 := Fr.nil n0
  have kp0 : Keep h0 h0 [o] := Keep.refl h0 _
  rw [show entryFrame m #[(.ref o), (.ref r), (.int (Int32.ofNat a)), (.int (Int32.ofNat b))] 4 = (mkF m 0 #[.val (.ref o), .val (.ref r), .val (.int (Int32.ofNat a)), .val (.int (Int32.ofNat b))] []) from by first | (simp [entryFrame, mkF, argsToLocals, Value.category]; done) | rfl]
  refine own_Go.of (S' := (T0.setTop (mkF m 1 #[.val (.ref o), .val (.ref r), .val (.int (Int32.ofNat a)), .val (.int (Int32.ofNat b))] [(.ref o)]))) (fun t kt => ?_) ?_
  · show Steps p.tables e below (T0.setTop (mkF m 0 #[.val (.ref o), .val (.ref r), .val (.int (Int32.ofNat a)), .val (.int (Int32.ofNat b))] [])) _
    refine XS.aloadN X0.here hx rfl (own_hb hby d2_0) rfl rfl ?_
    exact kt
  obtain ⟨_, _, ⟨T3, L3, k3, n3⟩, -, X3, ⟨Lc3, hQ3, l3, y3, z3⟩, st3⟩ := X0.specialBack hx (y := (⟨"java/lang/Record", "<init>", "()V"⟩ : MethodName)) rfl hown (mvT hZ (hw _ (List.mem_of_getElem? (i := 16) rfl))) (mvT hZ (hw _ (List.mem_of_getElem? (i := 17) rfl))) (mvT hZ (hw _ (List.mem_of_getElem? (i := 20) rfl))) (by decide) (backOf (W := 0) (rm3 l Z a0 hw [] o h0 n0 Z0 ) hZ (hw _ (List.mem_of_getElem? (i := 20) rfl)) (hw _ (List.mem_of_getElem? (i := 19) rfl)) (by decide) (by decide)) (g := (mkF m 1 #[.val (.ref o), .val (.ref r), .val (.int (Int32.ofNat a)), .val (.int (Int32.ofNat b))] [(.ref o)])) rfl (by rw [hml]; rfl) (Steps.refl _) (a := o) (argsL := []) (rest := []) (lenOf pd_1 rfl) rfl (by show 2 * 0 + _ ≤ _; exact Nat.le_of_eq rfl) (own_hb hby d2_1) (fun _ _ => ⟨rfl, e0, (by decide : 0 + 0 ≤ _), (by decide : 0 + 0 ≤ _)⟩)
  dsimp only [Pt.U, Pt.locs, Pt.cells, Pt.slots] at X3 l3 y3 z3 st3 hQ3
  subst l3 y3 z3
  obtain ⟨rfl, N3q, hh3⟩ := hQ3
  have N3 := Fr.app N0 N3q
  refine own_Go.of (S' := (T3.setTop (mkF m 4 #[.val (.ref o), .val (.ref r), .val (.int (Int32.ofNat a)), .val (.int (Int32.ofNat b))] []))) (fun t kt => st3.trans kt) ?_
  refine own_Go.of (S' := (T3.setTop (mkF m 7 #[.val (.ref o), .val (.ref r), .val (.int (Int32.ofNat a)), .val (.int (Int32.ofNat b))] [(.ref r), (.int (Int32.ofNat b)), (.int (Int32.ofNat a))]))) (fun t kt => ?_) ?_
  · show Steps p.tables e below (T3.setTop (mkF m 4 #[.val (.ref o), .val (.ref r), .val (.int (Int32.ofNat a)), .val (.int (Int32.ofNat b))] [])) _
    refine XS.iloadN X3.here hx rfl (own_hb hby d2_4) rfl ?_
    show Steps p.tables e below (T3.setTop (mkF m 5 #[.val (.ref o), .val (.ref r), .val (.int (Int32.ofNat a)), .val (.int (Int32.ofNat b))] [(.int (Int32.ofNat a))])) _
    refine XS.iloadN X3.here hx rfl (own_hb hby d2_5) rfl ?_
    show Steps p.tables e below (T3.setTop (mkF m 6 #[.val (.ref o), .val (.ref r), .val (.int (Int32.ofNat a)), .val (.int (Int32.ofNat b))] [(.int (Int32.ofNat b)), (.int (Int32.ofNat a))])) _
    refine XS.aloadN X3.here hx rfl (own_hb hby d2_6) rfl rfl ?_
    exact kt
  obtain ⟨cl4, Ar4, hln4⟩ := own_Ar.len pr4
  refine own_Go.of (S' := (T3.setTop (mkF m 8 #[.val (.ref o), .val (.ref r), .val (.int (Int32.ofNat a)), .val (.int (Int32.ofNat b))] [(.int (Int32.ofNat n)), (.int (Int32.ofNat b)), (.int (Int32.ofNat a))]))) (fun t kt => ?_) ?_
  · show Steps p.tables e below (T3.setTop (mkF m 7 #[.val (.ref o), .val (.ref r), .val (.int (Int32.ofNat a)), .val (.int (Int32.ofNat b))] [(.ref r), (.int (Int32.ofNat b)), (.int (Int32.ofNat a))])) _
    refine X3.arraylength hx (by rw [hh3]; exact Ar4.1) (State.isArrayOf_alike hZ.alike Ar4.2.1) (g := (mkF m 7 #[.val (.ref o), .val (.ref r), .val (.int (Int32.ofNat a)), .val (.int (Int32.ofNat b))] [(.ref r), (.int (Int32.ofNat b)), (.int (Int32.ofNat a))])) rfl rfl (own_hb hby d2_7) _ ?_
    rw [hln4]
    exact kt
  obtain ⟨_, _, ⟨T5, L5, k5, n5⟩, -, X5, ⟨Lc5, hQ5, l5, y5, z5⟩, st5⟩ := Jvm.LawKit.callS X3 hx (y := (⟨"java/util/Objects", "checkFromToIndex", "(III)I"⟩ : MethodName)) hown (mvT hZ (hw _ (List.mem_of_getElem? (i := 24) rfl))) (mvT hZ (hw _ (List.mem_of_getElem? (i := 25) rfl))) (mvT hZ (hw _ (List.mem_of_getElem? (i := 26) rfl))) (mvT hZ (hw _ (List.mem_of_getElem? (i := 27) rfl))) (by decide) (backOf (W := 0) (rm5 l Z a0 hw [] a b n h0 n0 Z0 hab hbn hn) hZ (hw _ (List.mem_of_getElem? (i := 27) rfl)) (hw _ (List.mem_of_getElem? (i := 26) rfl)) (by decide) (by decide)) (g := (mkF m 8 #[.val (.ref o), .val (.ref r), .val (.int (Int32.ofNat a)), .val (.int (Int32.ofNat b))] [(.int (Int32.ofNat n)), (.int (Int32.ofNat b)), (.int (Int32.ofNat a))])) rfl (by rw [hml]; rfl) (argsL := [(.int (Int32.ofNat a)), (.int (Int32.ofNat b)), (.int (Int32.ofNat n))]) (rest := []) (lenOf pd_2 rfl) rfl (by show 2 * 0 + _ ≤ _; exact Nat.le_of_eq rfl) (own_hb hby d2_8) (fun _ _ => ⟨rfl, hh3, (by decide : 0 + 0 ≤ _), (by decide : 0 + 0 ≤ _)⟩)
  dsimp only [Pt.U, Pt.locs, Pt.cells, Pt.slots] at X5 l5 y5 z5 st5 hQ5
  subst l5 y5 z5
  obtain ⟨rfl, N5q, hh5⟩ := hQ5
  have N5 := Fr.app N3 N5q
  refine own_Go.of (S' := (T5.setTop (mkF m 11 #[.val (.ref o), .val (.ref r), .val (.int (Int32.ofNat a)), .val (.int (Int32.ofNat b))] [(.int (Int32.ofNat a))]))) (fun t kt => st5 t kt) ?_
  refine own_Go.of (S' := (T5.setTop (mkF m 14 #[.val (.ref o), .val (.ref r), .val (.int (Int32.ofNat a)), .val (.int (Int32.ofNat b))] [(.ref r), (.ref o)]))) (fun t kt => ?_) ?_
  · show Steps p.tables e below (T5.setTop (mkF m 11 #[.val (.ref o), .val (.ref r), .val (.int (Int32.ofNat a)), .val (.int (Int32.ofNat b))] [(.int (Int32.ofNat a))])) _
    refine XS.pop X5.here hx rfl (own_hb hby d2_11) rfl rfl ?_
    show Steps p.tables e below (T5.setTop (mkF m 12 #[.val (.ref o), .val (.ref r), .val (.int (Int32.ofNat a)), .val (.int (Int32.ofNat b))] [])) _
    refine XS.aloadN X5.here hx rfl (own_hb hby d2_12) rfl rfl ?_
    show Steps p.tables e below (T5.setTop (mkF m 13 #[.val (.ref o), .val (.ref r), .val (.int (Int32.ofNat a)), .val (.int (Int32.ofNat b))] [(.ref o)])) _
    refine XS.aloadN X5.here hx rfl (own_hb hby d2_13) rfl rfl ?_
    exact kt
  obtain ⟨T6, h6, X6, e6, W6, st6⟩ := putF X5 hx hZ hown (host := "") (Or.inl (hw _ (List.mem_of_getElem? (i := 32) rfl))) Via.refl hh5 pr1 pr0 (Or.inr ⟨(hw _ (List.mem_of_getElem? (i := 33) rfl)), rfl, hnm⟩) (hw _ (List.mem_of_getElem? (i := 11) rfl)) (ty := (.array .byte)) (by decide) rfl rfl (g := (mkF m 14 #[.val (.ref o), .val (.ref r), .val (.int (Int32.ofNat a)), .val (.int (Int32.ofNat b))] [(.ref r), (.ref o)])) rfl rfl (own_hb hby d2_14)
  refine own_Go.of (S' := (T6.setTop (mkF m 17 #[.val (.ref o), .val (.ref r), .val (.int (Int32.ofNat a)), .val (.int (Int32.ofNat b))] []))) st6 ?_
  have f7 : Exa Z h6 o "com/example/gridwire/gridwire/store/ByteSpan" := pr0.wr W6
  have f8 : Fld Z h6 o "com/example/gridwire/gridwire/store/ByteSpan" "from" "I" u2 := pr2.other W6 (Or.inr (slot_ne (Or.inr (hw _ (List.mem_of_getElem? (i := 35) rfl))) (Or.inr (hw _ (List.mem_of_getElem? (i := 33) rfl))) (by decide) (t := .int) (t' := (.array .byte)) (by decide) (by decide)))
  have f9 : Fld Z h6 o "com/example/gridwire/gridwire/store/ByteSpan" "to" "I" u3 := pr3.other W6 (Or.inr (slot_ne (Or.inr (hw _ (List.mem_of_getElem? (i := 37) rfl))) (Or.inr (hw _ (List.mem_of_getElem? (i := 33) rfl))) (by decide) (t := .int) (t' := (.array .byte)) (by decide) (by decide)))
  have f10 : own_Ar Z h6 r .byte n f := pr4.other W6 pr6
  have z11 : n0 ≤ h6.size := Nat.le_trans Z0 (Keep.of_wr W6).1
  have kp12 : Keep h0 h6 [o] := kp0.wr W6 (Or.inl (List.mem_of_getElem? (i := 0) rfl))
  have f13 : Fld Z h6 o "com/example/gridwire/gridwire/store/ByteSpan" "array" "[B" (.ref r) := pr1.same W6
  have N6 := Fr.snoc X6 N5 pr5
  refine own_Go.of (S' := (T6.setTop (mkF m 19 #[.val (.ref o), .val (.ref r), .val (.int (Int32.ofNat a)), .val (.int (Int32.ofNat b))] [(.int (Int32.ofNat a)), (.ref o)]))) (fun t kt => ?_) ?_
  · show Steps p.tables e below (T6.setTop (mkF m 17 #[.val (.ref o), .val (.ref r), .val (.int (Int32.ofNat a)), .val (.int (Int32.ofNat b))] [])) _
    refine XS.aloadN X6.here hx rfl (own_hb hby d2_17) rfl rfl ?_
    show Steps p.tables e below (T6.setTop (mkF m 18 #[.val (.ref o), .val (.ref r), .val (.int (Int32.ofNat a)), .val (.int (Int32.ofNat b))] [(.ref o)])) _
    refine XS.iloadN X6.here hx rfl (own_hb hby d2_18) rfl ?_
    exact kt
  obtain ⟨T14, h14, X14, e14, W14, st14⟩ := putF X6 hx hZ hown (host := "") (Or.inl (hw _ (List.mem_of_getElem? (i := 34) rfl))) Via.refl e6 f8 f7 (Or.inr ⟨(hw _ (List.mem_of_getElem? (i := 35) rfl)), rfl, hnm⟩) (hw _ (List.mem_of_getElem? (i := 11) rfl)) (ty := .int) (by decide) rfl rfl (g := (mkF m 19 #[.val (.ref o), .val (.ref r), .val (.int (Int32.ofNat a)), .val (.int (Int32.ofNat b))] [(.int (Int32.ofNat a)), (.ref o)])) rfl rfl (own_hb hby d2_19)
  refine own_Go.of (S' := (T14.setTop (mkF m 22 #[.val (.ref o), .val (.ref r), .val (.int (Int32.ofNat a)), .val (.int (Int32.ofNat b))] []))) st14 ?_
  have f15 : Exa Z h14 o "com/example/gridwire/gridwire/store/ByteSpan" := f7.wr W14
  have f16 : Fld Z h14 o "com/example/gridwire/gridwire/store/ByteSpan" "array" "[B" (.ref r) := f13.other W14 (Or.inr (slot_ne (Or.inr (hw _ (List.mem_of_getElem? (i := 33) rfl))) (Or.inr (hw _ (List.mem_of_getElem? (i := 35) rfl))) (by decide) (t := (.array .byte)) (t' := .int) (by decide) (by decide)))
  have f17 : Fld Z h14 o "com/example/gridwire/gridwire/store/ByteSpan" "to" "I" u3 := f9.other W14 (Or.inr (slot_ne (Or.inr (hw _ (List.mem_of_getElem? (i := 37) rfl))) (Or.inr (hw _ (List.mem_of_getElem? (i := 35) rfl))) (by decide) (t := .int) (t' := .int) (by decide) (by decide)))
  have f18 : own_Ar Z h14 r .byte n f := f10.other W14 pr6
  have z19 : n0 ≤ h14.size := Nat.le_trans z11 (Keep.of_wr W14).1
  have kp20 : Keep h0 h14 [o] := kp12.wr W14 (Or.inl (List.mem_of_getElem? (i := 0) rfl))
  have f21 : Fld Z h14 o "com/example/gridwire/gridwire/store/ByteSpan" "from" "I" (.int (Int32.ofNat a)) := f8.same W14
  have N14 := Fr.snoc X14 N6 pr5
  refine own_Go.of (S' := (T14.setTop (mkF m 24 #[.val (.ref o), .val (.ref r), .val (.int (Int32.ofNat a)), .val (.int (Int32.ofNat b))] [(.int (Int32.ofNat b)), (.ref o)]))) (fun t kt => ?_) ?_
  · show Steps p.tables e below (T14.setTop (mkF m 22 #[.val (.ref o), .val (.ref r), .val (.int (Int32.ofNat a)), .val (.int (Int32.ofNat b))] [])) _
    refine XS.aloadN X14.here hx rfl (own_hb hby d2_22) rfl rfl ?_
    show Steps p.tables e below (T14.setTop (mkF m 23 #[.val (.ref o), .val (.ref r), .val (.int (Int32.ofNat a)), .val (.int (Int32.ofNat b))] [(.ref o)])) _
    refine XS.iloadN X14.here hx rfl (own_hb hby d2_23) rfl ?_
    exact kt
  obtain ⟨T22, h22, X22, e22, W22, st22⟩ := putF X14 hx hZ hown (host := "") (Or.inl (hw _ (List.mem_of_getElem? (i := 36) rfl))) Via.refl e14 f17 f15 (Or.inr ⟨(hw _ (List.mem_of_getElem? (i := 37) rfl)), rfl, hnm⟩) (hw _ (List.mem_of_getElem? (i := 11) rfl)) (ty := .int) (by decide) rfl rfl (g := (mkF m 24 #[.val (.ref o), .val (.ref r), .val (.int (Int32.ofNat a)), .val (.int (Int32.ofNat b))] [(.int (Int32.ofNat b)), (.ref o)])) rfl rfl (own_hb hby d2_24)
  refine own_Go.of (S' := (T22.setTop (mkF m 27 #[.val (.ref o), .val (.ref r), .val (.int (Int32.ofNat a)), .val (.int (Int32.ofNat b))] []))) st22 ?_
  have f23 : Exa Z h22 o "com/example/gridwire/gridwire/store/ByteSpan" := f15.wr W22
  have f24 : Fld Z h22 o "com/example/gridwire/gridwire/store/ByteSpan" "array" "[B" (.ref r) := f16.other W22 (Or.inr (slot_ne (Or.inr (hw _ (List.mem_of_getElem? (i := 33) rfl))) (Or.inr (hw _ (List.mem_of_getElem? (i := 37) rfl))) (by decide) (t := (.array .byte)) (t' := .int) (by decide) (by decide)))
  have f25 : Fld Z h22 o "com/example/gridwire/gridwire/store/ByteSpan" "from" "I" (.int (Int32.ofNat a)) := f21.other W22 (Or.inr (slot_ne (Or.inr (hw _ (List.mem_of_getElem? (i := 35) rfl))) (Or.inr (hw _ (List.mem_of_getElem? (i := 37) rfl))) (by decide) (t := .int) (t' := .int) (by decide) (by decide)))
  have f26 : own_Ar Z h22 r .byte n f := f18.other W22 pr6
  have z27 : n0 ≤ h22.size := Nat.le_trans z19 (Keep.of_wr W22).1
  have kp28 : Keep h0 h22 [o] := kp20.wr W22 (Or.inl (List.mem_of_getElem? (i := 0) rfl))
  have f29 : Fld Z h22 o "com/example/gridwire/gridwire/store/ByteSpan" "to" "I" (.int (Int32.ofNat b)) := f17.same W22
  have N22 := Fr.snoc X22 N14 pr5
  exact own_retV X22 hx hlk hret (own_hb hby d2_27) e22 ⟨rfl, N22, kp28, f23, f24, f25, f29⟩ (by decide) (by decide)
theorem d1_0 : decode method_2_code 0 = .ok (.iload_n 3, 1) := by decide +kernel
theorem d1_1 : decode method_2_code 1 = .ok (.iload_n 2, 1) := by decide +kernel
theorem d1_2 : decode method_2_code 2 = .ok (.if_icmp .gt 22, 3) := by decide +kernel
theorem d1_5 : decode method_2_code 5 = .ok (.iload_n 2, 1) := by decide +kernel
theorem d1_6 : decode method_2_code 6 = .ok (.iload 4, 2) := by decide +kernel
theorem d1_8 : decode method_2_code 8 = .ok (.if_icmp .ge 16, 3) := by decide +kernel
theorem d1_11 : decode method_2_code 11 = .ok (.aload_n 0, 1) := by decide +kernel
theorem d1_12 : decode method_2_code 12 = .ok (.iload_n 2, 1) := by decide +kernel
theorem d1_13 : decode method_2_code 13 = .ok (.baload, 1) := by decide +kernel
theorem d1_14 : decode method_2_code 14 = .ok (.aload_n 1, 1) := by decide +kernel
theorem d1_15 : decode method_2_code 15 = .ok (.iload 4, 2) := by decide +kernel
theorem d1_17 : decode method_2_code 17 = .ok (.iconst 1, 1) := by decide +kernel
theorem d1_18 : decode method_2_code 18 = .ok (.isub, 1) := by decide +kernel
theorem d1_19 : decode method_2_code 19 = .ok (.iload_n 2, 1) := by decide +kernel
theorem d1_20 : decode method_2_code 20 = .ok (.isub, 1) := by decide +kernel
theorem d1_21 : decode method_2_code 21 = .ok (.iaload, 1) := by decide +kernel
theorem d1_22 : decode method_2_code 22 = .ok (.imul, 1) := by decide +kernel
theorem d1_23 : decode method_2_code 23 = .ok (.ireturn, 1) := by decide +kernel
theorem d1_24 : decode method_2_code 24 = .ok (.iconst 0, 1) := by decide +kernel
theorem d1_25 : decode method_2_code 25 = .ok (.ireturn, 1) := by decide +kernel
theorem pn_1 : plainName "com/example/gridwire/gridwire/store/ByteSpanArraysHashCodePinLaw" = true := by first | (simp [plainName, overriddenIn]; done) | decide +kernel
def Q_rm1 (Z : State) (r : Addr) (q : Addr) (i : Nat) (a : Nat) (b : Nat) (fa : Nat → Int32) (h0 : Heap) (n0 : Nat) (v : Option Value) (h : Heap) (L : List Loc) : Prop := v = some (.int (own_t fa i a b)) ∧ Fr n0 L ∧ h = h0
set_option maxRecDepth 65536 in
set_option maxHeartbeats 40000000 in
theorem rm1 (l : Launch) (Z : State) (a0 : Array Value) (hw : ∀ d ∈ tables_1, d.before a0 Z = true) (ws : List Jvm.Cond) (r : Addr) (q : Addr) (i : Nat) (a : Nat) (b : Nat) (fa : Nat → Int32) (h0 : Heap) (n0 : Nat) (Z0 : n0 ≤ h0.size) (pr0 : own_Ar Z h0 r .byte 6 (own_I fa)) (pr1 : own_Ar Z h0 q .int 7 (own_I own_pw)) (hi : i < 6) (hab : a ≤ b) (hbb : b ≤ 6) :
    own_Met l Z h0 (⟨"com/example/gridwire/gridwire/store/ByteSpanArraysHashCodePinLaw", "term", "([B[IIII)I"⟩ : MethodName) method_2_code 5 (some .int) ws ({ frames := 0, cells := 0, slots := 0, locals := 0 } : Room) #[(.ref r), (.ref q), (.int (Int32.ofNat i)), (.int (Int32.ofNat a)), (.int (Int32.ofNat b))] (Q_rm1 Z r q i a b fa h0 n0) := by
  refine own_enter (plainFor_of_name pn_1) ?_
  intro p e s m below meth c T0 X0 hx hby hml hret hlk hown hnm hZ e0
  have N0 := Fr.nil n0
  rw [show entryFrame m #[(.ref r), (.ref q), (.int (Int32.ofNat i)), (.int (Int32.ofNat a)), (.int (Int32.ofNat b))] 5 = (mkF m 0 #[.val (.ref r), .val (.ref q), .val (.int (Int32.ofNat i)), .val (.int (Int32.ofNat a)), .val (.int (Int32.ofNat b))] []) from by first | (simp [entryFrame, mkF, argsToLocals, Value.category]; done) | rfl]
  refine own_Go.of (S' := (T0.setTop (mkF m 2 #[.val (.ref r), .val (.ref q), .val (.int (Int32.ofNat i)), .val (.int (Int32.ofNat a)), .val (.int (Int32.ofNat b))] [(.int (Int32.ofNat i)), (.int (Int32.ofNat a))]))) (fun t kt => ?_) ?_
  · show Steps p.tables e below (T0.setTop (mkF m 0 #[.val (.ref r), .val (.ref q), .val (.int (Int32.ofNat i)), .val (.int (Int32.ofNat a)), .val (.int (Int32.ofNat b))] [])) _
    refine XS.iloadN X0.here hx rfl (own_hb hby d1_0) rfl ?_
    show Steps p.tables e below (T0.setTop (mkF m 1 #[.val (.ref r), .val (.ref q), .val (.int (Int32.ofNat i)), .val (.int (Int32.ofNat a)), .val (.int (Int32.ofNat b))] [(.int (Int32.ofNat a))])) _
    refine XS.iloadN X0.here hx rfl (own_hb hby d1_1) rfl ?_
    exact kt
  by_cases hc2_30 : i < a
  · skip
    refine own_Go.of (S' := (T0.setTop (mkF m 25 #[.val (.ref r), .val (.ref q), .val (.int (Int32.ofNat i)), .val (.int (Int32.ofNat a)), .val (.int (Int32.ofNat b))] [(.int (0 : Int32))]))) (fun t kt => ?_) ?_
    · show Steps p.tables e below (T0.setTop (mkF m 2 #[.val (.ref r), .val (.ref q), .val (.int (Int32.ofNat i)), .val (.int (Int32.ofNat a)), .val (.int (Int32.ofNat b))] [(.int (Int32.ofNat i)), (.int (Int32.ofNat a))])) _
      refine XS.icmpYes X0.here hx rfl (pc0 := 2) (pc' := 24) rfl (own_hb hby d1_2) rfl (tlt ((own_ltN (by omega) (by omega)).mpr hc2_30)).2.2.1 (by decide) (by decide) ?_
      show Steps p.tables e below (T0.setTop (mkF m 24 #[.val (.ref r), .val (.ref q), .val (.int (Int32.ofNat i)), .val (.int (Int32.ofNat a)), .val (.int (Int32.ofNat b))] [])) _
      refine XS.iconst X0.here hx rfl (own_hb hby d1_24) ?_
      exact kt
    exact own_retI X0 hx hlk hret (own_hb hby d1_25) e0 ⟨by unfold own_t; rw [if_neg (by omega)], N0, rfl⟩ (by decide) (by decide)
  · skip
    refine own_Go.of (S' := (T0.setTop (mkF m 8 #[.val (.ref r), .val (.ref q), .val (.int (Int32.ofNat i)), .val (.int (Int32.ofNat a)), .val (.int (Int32.ofNat b))] [(.int (Int32.ofNat b)), (.int (Int32.ofNat i))]))) (fun t kt => ?_) ?_
    · show Steps p.tables e below (T0.setTop (mkF m 2 #[.val (.ref r), .val (.ref q), .val (.int (Int32.ofNat i)), .val (.int (Int32.ofNat a)), .val (.int (Int32.ofNat b))] [(.int (Int32.ofNat i)), (.int (Int32.ofNat a))])) _
      refine XS.icmpNo X0.here hx rfl (own_hb hby d1_2) rfl (flt (fun q => hc2_30 ((own_ltN (by omega) (by omega)).mp q))).2.2.1 ?_
      show Steps p.tables e below (T0.setTop (mkF m 5 #[.val (.ref r), .val (.ref q), .val (.int (Int32.ofNat i)), .val (.int (Int32.ofNat a)), .val (.int (Int32.ofNat b))] [])) _
      refine XS.iloadN X0.here hx rfl (own_hb hby d1_5) rfl ?_
      show Steps p.tables e below (T0.setTop (mkF m 6 #[.val (.ref r), .val (.ref q), .val (.int (Int32.ofNat i)), .val (.int (Int32.ofNat a)), .val (.int (Int32.ofNat b))] [(.int (Int32.ofNat i))])) _
      refine XS.iload X0.here hx rfl (own_hb hby d1_6) rfl ?_
      exact kt
    by_cases hc8_31 : i < b
    · skip
      refine own_Go.of (S' := (T0.setTop (mkF m 13 #[.val (.ref r), .val (.ref q), .val (.int (Int32.ofNat i)), .val (.int (Int32.ofNat a)), .val (.int (Int32.ofNat b))] [(.int (Int32.ofNat i)), (.ref r)]))) (fun t kt => ?_) ?_
      · show Steps p.tables e below (T0.setTop (mkF m 8 #[.val (.ref r), .val (.ref q), .val (.int (Int32.ofNat i)), .val (.int (Int32.ofNat a)), .val (.int (Int32.ofNat b))] [(.int (Int32.ofNat b)), (.int (Int32.ofNat i))])) _
        refine XS.icmpNo X0.here hx rfl (own_hb hby d1_8) rfl (tlt ((own_ltN (by omega) (by omega)).mpr hc8_31)).2.1 ?_
        show Steps p.tables e below (T0.setTop (mkF m 11 #[.val (.ref r), .val (.ref q), .val (.int (Int32.ofNat i)), .val (.int (Int32.ofNat a)), .val (.int (Int32.ofNat b))] [])) _
        refine XS.aloadN X0.here hx rfl (own_hb hby d1_11) rfl rfl ?_
        show Steps p.tables e below (T0.setTop (mkF m 12 #[.val (.ref r), .val (.ref q), .val (.int (Int32.ofNat i)), .val (.int (Int32.ofNat a)), .val (.int (Int32.ofNat b))] [(.ref r)])) _
        refine XS.iloadN X0.here hx rfl (own_hb hby d1_12) rfl ?_
        exact kt
      obtain ⟨cl32, Ar32, hin32, hat32⟩ := own_Ar.get (j := (Int32.ofNat i)) (k := i) pr0 ⟨rfl, hi⟩
      refine own_Go.of (S' := (T0.setTop (mkF m 21 #[.val (.ref r), .val (.ref q), .val (.int (Int32.ofNat i)), .val (.int (Int32.ofNat a)), .val (.int (Int32.ofNat b))] [(.int (Int32.ofNat (b - 1 - i))), (.ref q), (.int (fa i))]))) (fun t kt => ?_) ?_
      · show Steps p.tables e below (T0.setTop (mkF m 13 #[.val (.ref r), .val (.ref q), .val (.int (Int32.ofNat i)), .val (.int (Int32.ofNat a)), .val (.int (Int32.ofNat b))] [(.int (Int32.ofNat i)), (.ref r)])) _
        refine X0.baloadBytes hx (j := (Int32.ofNat i)) (v := (.int (fa i))) (by rw [e0]; exact Ar32.1) (State.isArrayOf_alike hZ.alike Ar32.2.1) Ar32.2.2 hin32 hat32 (g := (mkF m 13 #[.val (.ref r), .val (.ref q), .val (.int (Int32.ofNat i)), .val (.int (Int32.ofNat a)), .val (.int (Int32.ofNat b))] [(.int (Int32.ofNat i)), (.ref r)])) rfl rfl (own_hb hby d1_13) _ ?_
        show Steps p.tables e below (T0.setTop (mkF m 14 #[.val (.ref r), .val (.ref q), .val (.int (Int32.ofNat i)), .val (.int (Int32.ofNat a)), .val (.int (Int32.ofNat b))] [(.int (fa i))])) _
        refine XS.aloadN X0.here hx rfl (own_hb hby d1_14) rfl rfl ?_
        show Steps p.tables e below (T0.setTop (mkF m 15 #[.val (.ref r), .val (.ref q), .val (.int (Int32.ofNat i)), .val (.int (Int32.ofNat a)), .val (.int (Int32.ofNat b))] [(.ref q), (.int (fa i))])) _
        refine XS.iload X0.here hx rfl (own_hb hby d1_15) rfl ?_
        show Steps p.tables e below (T0.setTop (mkF m 17 #[.val (.ref r), .val (.ref q), .val (.int (Int32.ofNat i)), .val (.int (Int32.ofNat a)), .val (.int (Int32.ofNat b))] [(.int (Int32.ofNat b)), (.ref q), (.int (fa i))])) _
        refine XS.iconst X0.here hx rfl (own_hb hby d1_17) ?_
        show Steps p.tables e below (T0.setTop (mkF m 18 #[.val (.ref r), .val (.ref q), .val (.int (Int32.ofNat i)), .val (.int (Int32.ofNat a)), .val (.int (Int32.ofNat b))] [(.int (1 : Int32)), (.int (Int32.ofNat b)), (.ref q), (.int (fa i))])) _
        refine XS.isub X0.here hx rfl (own_hb hby d1_18) rfl ?_
        show Steps p.tables e below (T0.setTop (mkF m 19 #[.val (.ref r), .val (.ref q), .val (.int (Int32.ofNat i)), .val (.int (Int32.ofNat a)), .val (.int (Int32.ofNat b))] [(.int ((Int32.ofNat b) - (1 : Int32))), (.ref q), (.int (fa i))])) _
        rw [show Int32.ofNat b - (1 : Int32) = Int32.ofNat (b - 1) from own_subN (a := b) (b := 1) (by omega)]
        show Steps p.tables e below (T0.setTop (mkF m 19 #[.val (.ref r), .val (.ref q), .val (.int (Int32.ofNat i)), .val (.int (Int32.ofNat a)), .val (.int (Int32.ofNat b))] [(.int (Int32.ofNat (b - 1))), (.ref q), (.int (fa i))])) _
        refine XS.iloadN X0.here hx rfl (own_hb hby d1_19) rfl ?_
        show Steps p.tables e below (T0.setTop (mkF m 20 #[.val (.ref r), .val (.ref q), .val (.int (Int32.ofNat i)), .val (.int (Int32.ofNat a)), .val (.int (Int32.ofNat b))] [(.int (Int32.ofNat i)), (.int (Int32.ofNat (b - 1))), (.ref q), (.int (fa i))])) _
        refine XS.isub X0.here hx rfl (own_hb hby d1_20) rfl ?_
        show Steps p.tables e below (T0.setTop (mkF m 21 #[.val (.ref r), .val (.ref q), .val (.int (Int32.ofNat i)), .val (.int (Int32.ofNat a)), .val (.int (Int32.ofNat b))] [(.int ((Int32.ofNat (b - 1)) - (Int32.ofNat i))), (.ref q), (.int (fa i))])) _
        rw [own_subN (a := b - 1) (b := i) (by omega)]
        exact kt
      obtain ⟨cl33, Ar33, hin33, hat33⟩ := own_Ar.get (j := (Int32.ofNat (b - 1 - i))) (k := b - 1 - i) pr1 ⟨rfl, by omega⟩
      refine own_Go.of (S' := (T0.setTop (mkF m 23 #[.val (.ref r), .val (.ref q), .val (.int (Int32.ofNat i)), .val (.int (Int32.ofNat a)), .val (.int (Int32.ofNat b))] [(.int ((fa i) * (own_pw (b - 1 - i))))]))) (fun t kt => ?_) ?_
      · show Steps p.tables e below (T0.setTop (mkF m 21 #[.val (.ref r), .val (.ref q), .val (.int (Int32.ofNat i)), .val (.int (Int32.ofNat a)), .val (.int (Int32.ofNat b))] [(.int (Int32.ofNat (b - 1 - i))), (.ref q), (.int (fa i))])) _
        refine X0.iaload hx (j := (Int32.ofNat (b - 1 - i))) (v := (.int (own_pw (b - 1 - i)))) (by rw [e0]; exact Ar33.1) (State.isArrayOf_alike hZ.alike Ar33.2.1) Ar33.2.2 hin33 hat33 (g := (mkF m 21 #[.val (.ref r), .val (.ref q), .val (.int (Int32.ofNat i)), .val (.int (Int32.ofNat a)), .val (.int (Int32.ofNat b))] [(.int (Int32.ofNat (b - 1 - i))), (.ref q), (.int (fa i))])) rfl rfl (own_hb hby d1_21) _ ?_
        show Steps p.tables e below (T0.setTop (mkF m 22 #[.val (.ref r), .val (.ref q), .val (.int (Int32.ofNat i)), .val (.int (Int32.ofNat a)), .val (.int (Int32.ofNat b))] [(.int (own_pw (b - 1 - i))), (.int (fa i))])) _
        refine XS.imul X0.here hx rfl (own_hb hby d1_22) rfl ?_
        exact kt
      exact own_retI X0 hx hlk hret (own_hb hby d1_23) e0 ⟨by unfold own_t; rw [if_pos ⟨by omega, hc8_31⟩], N0, rfl⟩ (by decide) (by decide)
    · skip
      refine own_Go.of (S' := (T0.setTop (mkF m 25 #[.val (.ref r), .val (.ref q), .val (.int (Int32.ofNat i)), .val (.int (Int32.ofNat a)), .val (.int (Int32.ofNat b))] [(.int (0 : Int32))]))) (fun t kt => ?_) ?_
      · show Steps p.tables e below (T0.setTop (mkF m 8 #[.val (.ref r), .val (.ref q), .val (.int (Int32.ofNat i)), .val (.int (Int32.ofNat a)), .val (.int (Int32.ofNat b))] [(.int (Int32.ofNat b)), (.int (Int32.ofNat i))])) _
        refine XS.icmpYes X0.here hx rfl (pc0 := 8) (pc' := 24) rfl (own_hb hby d1_8) rfl (flt (fun q => hc8_31 ((own_ltN (by omega) (by omega)).mp q))).2.1 (by decide) (by decide) ?_
        show Steps p.tables e below (T0.setTop (mkF m 24 #[.val (.ref r), .val (.ref q), .val (.int (Int32.ofNat i)), .val (.int (Int32.ofNat a)), .val (.int (Int32.ofNat b))] [])) _
        refine XS.iconst X0.here hx rfl (own_hb hby d1_24) ?_
        exact kt
      exact own_retI X0 hx hlk hret (own_hb hby d1_25) e0 ⟨by unfold own_t; rw [if_neg (by omega)], N0, rfl⟩ (by decide) (by decide)
def Q_rm7 (Z : State) (o : Addr) (r : Addr) (a : Nat) (b : Nat) (fa : Nat → Int32) (h0 : Heap) (n0 : Nat) (v : Option Value) (h : Heap) (L : List Loc) : Prop := v = some (.int (own_h fa a (b - a))) ∧ Fr n0 L ∧ h = h0
theorem d7_0 : decode prog_80_method_8_code 0 = .ok (.iconst 1, 1) := by decide +kernel
theorem d7_1 : decode prog_80_method_8_code 1 = .ok (.istore_n 1, 1) := by decide +kernel
theorem d7_2 : decode prog_80_method_8_code 2 = .ok (.aload_n 0, 1) := by decide +kernel
theorem d7_3 : decode prog_80_method_8_code 3 = .ok (.getfield 19, 3) := by decide +kernel
theorem d7_6 : decode prog_80_method_8_code 6 = .ok (.istore_n 2, 1) := by decide +kernel
theorem d7_7 : decode prog_80_method_8_code 7 = .ok (.iload_n 2, 1) := by decide +kernel
theorem d7_8 : decode prog_80_method_8_code 8 = .ok (.aload_n 0, 1) := by decide +kernel
theorem d7_9 : decode prog_80_method_8_code 9 = .ok (.getfield 23, 3) := by decide +kernel
theorem d7_12 : decode prog_80_method_8_code 12 = .ok (.if_icmp .ge 21, 3) := by decide +kernel
theorem d7_15 : decode prog_80_method_8_code 15 = .ok (.bipush 31, 2) := by decide +kernel
theorem d7_17 : decode prog_80_method_8_code 17 = .ok (.iload_n 1, 1) := by decide +kernel
theorem d7_18 : decode prog_80_method_8_code 18 = .ok (.imul, 1) := by decide +kernel
theorem d7_19 : decode prog_80_method_8_code 19 = .ok (.aload_n 0, 1) := by decide +kernel
theorem d7_20 : decode prog_80_method_8_code 20 = .ok (.getfield 13, 3) := by decide +kernel
theorem d7_23 : decode prog_80_method_8_code 23 = .ok (.iload_n 2, 1) := by decide +kernel
theorem d7_24 : decode prog_80_method_8_code 24 = .ok (.baload, 1) := by decide +kernel
theorem d7_25 : decode prog_80_method_8_code 25 = .ok (.iadd, 1) := by decide +kernel
theorem d7_26 : decode prog_80_method_8_code 26 = .ok (.istore_n 1, 1) := by decide +kernel
theorem d7_27 : decode prog_80_method_8_code 27 = .ok (.iinc 2 1, 3) := by decide +kernel
theorem d7_30 : decode prog_80_method_8_code 30 = .ok (.goto (-23), 3) := by decide +kernel
theorem d7_33 : decode prog_80_method_8_code 33 = .ok (.iload_n 1, 1) := by decide +kernel
theorem d7_34 : decode prog_80_method_8_code 34 = .ok (.ireturn, 1) := by decide +kernel
theorem pn_7 : plainName "com/example/gridwire/gridwire/store/ByteSpan" = true := by first | (simp [plainName, overriddenIn]; done) | decide +kernel
set_option maxRecDepth 65536 in
set_option maxHeartbeats 40000000 in
theorem loop7 {p : Program} {l : Launch} {e : Env} {s : State} {m : MethodId} {below : List Frame} {meth : Method} {c : Code} {Z : State} {a0 : Array Value} (hw : ∀ d ∈ tables_1, d.before a0 Z = true) (hx : p.tables.exec = Jvm.exec) (hZ : Z.Warmed39 s.vm) (hby : c.code = prog_80_method_8_code) (hml : c.maxLocals = 3) (hret : meth.sig.returnType = some .int) (hlk : meth.locks = false) (hown : s.vm.findClass "com/example/gridwire/gridwire/store/ByteSpan" = some m.cls) (hnm : meth.name = "arraysHashCode") (o : Addr) (r : Addr) (a : Nat) (b : Nat) (fa : Nat → Int32) (h0 : Heap) (n0 : Nat)  (hab : a ≤ b) (hbb : b ≤ 6) :
    ∀ (k : Nat) (i : Nat) {T1 : State} {h1 : Heap} {locs : List Loc}, Stand p l e ({ frames := 0, cells := 0, slots := 0, locals := 0 } : Room) s m #[(.ref o)] below meth c T1 locs 0 0 → T1.heap = h1 → Fr n0 locs → n0 ≤ h1.size → (i + k = b) → (a ≤ i) → (Fld Z h1 o "com/example/gridwire/gridwire/store/ByteSpan" "array" "[B" (.ref r)) → (Fld Z h1 o "com/example/gridwire/gridwire/store/ByteSpan" "from" "I" (.int (Int32.ofNat a))) → (Fld Z h1 o "com/example/gridwire/gridwire/store/ByteSpan" "to" "I" (.int (Int32.ofNat b))) → (own_Ar Z h1 r .byte 6 (own_I fa)) → (h1 = h0) → 
    own_Go p e below (T1.setTop (mkF m 7 #[.val (.ref o), .val (.int (own_h fa a (i - a))), .val (.int (Int32.ofNat i))] [])) (own_End s (Q_rm7 Z o r a b fa h0 n0) ({ frames := 0, cells := 0, slots := 0, locals := 0 } : Room).cells ({ frames := 0, cells := 0, slots := 0, locals := 0 } : Room).slots) := by
  intro k
  induction k with
  | zero =>
    intro i T1 h1 locs X1 e1 N1 Z1 hik hai pr2 pr3 pr4 pr5 hh
    refine own_Go.of (S' := (T1.setTop (mkF m 9 #[.val (.ref o), .val (.int (own_h fa a (i - a))), .val (.int (Int32.ofNat i))] [(.ref o), (.int (Int32.ofNat i))]))) (fun t kt => ?_) ?_
    · show Steps p.tables e below (T1.setTop (mkF m 7 #[.val (.ref o), .val (.int (own_h fa a (i - a))), .val (.int (Int32.ofNat i))] [])) _
      refine XS.iloadN X1.here hx rfl (own_hb hby d7_7) rfl ?_
      show Steps p.tables e below (T1.setTop (mkF m 8 #[.val (.ref o), .val (.int (own_h fa a (i - a))), .val (.int (Int32.ofNat i))] [(.int (Int32.ofNat i))])) _
      refine XS.aloadN X1.here hx rfl (own_hb hby d7_8) rfl rfl ?_
      exact kt
    obtain ⟨T34, X34, e34, st34⟩ := getF X1 hx hZ hown (host := "") (Or.inl (hw _ (List.mem_of_getElem? (i := 36) rfl))) Via.refl e1 pr4 (g := (mkF m 9 #[.val (.ref o), .val (.int (own_h fa a (i - a))), .val (.int (Int32.ofNat i))] [(.ref o), (.int (Int32.ofNat i))])) rfl rfl (own_hb hby d7_9)
    refine own_Go.of (S' := (T34.setTop (mkF m 12 #[.val (.ref o), .val (.int (own_h fa a (i - a))), .val (.int (Int32.ofNat i))] [(.int (Int32.ofNat b)), (.int (Int32.ofNat i))]))) st34 ?_
    refine own_Go.of (S' := (T34.setTop (mkF m 34 #[.val (.ref o), .val (.int (own_h fa a (i - a))), .val (.int (Int32.ofNat i))] [(.int (own_h fa a (i - a)))]))) (fun t kt => ?_) ?_
    · show Steps p.tables e below (T34.setTop (mkF m 12 #[.val (.ref o), .val (.int (own_h fa a (i - a))), .val (.int (Int32.ofNat i))] [(.int (Int32.ofNat b)), (.int (Int32.ofNat i))])) _
      refine XS.icmpYes X34.here hx rfl (pc0 := 12) (pc' := 33) rfl (own_hb hby d7_12) rfl (flt (fun q => by have h2 := (own_ltN (by omega) (by omega)).mp q; omega)).2.1 (by decide) (by decide) ?_
      show Steps p.tables e below (T34.setTop (mkF m 33 #[.val (.ref o), .val (.int (own_h fa a (i - a))), .val (.int (Int32.ofNat i))] [])) _
      refine XS.iloadN X34.here hx rfl (own_hb hby d7_33) rfl ?_
      exact kt
    exact own_retI X34 hx hlk hret (own_hb hby d7_34) e34 ⟨by rw [show i = b by omega], N1, hh⟩ (by decide) (by decide)
  | succ k ih =>
    intro i T1 h1 locs X1 e1 N1 Z1 hik hai pr2 pr3 pr4 pr5 hh
    refine own_Go.of (S' := (T1.setTop (mkF m 9 #[.val (.ref o), .val (.int (own_h fa a (i - a))), .val (.int (Int32.ofNat i))] [(.ref o), (.int (Int32.ofNat i))]))) (fun t kt => ?_) ?_
    · show Steps p.tables e below (T1.setTop (mkF m 7 #[.val (.ref o), .val (.int (own_h fa a (i - a))), .val (.int (Int32.ofNat i))] [])) _
      refine XS.iloadN X1.here hx rfl (own_hb hby d7_7) rfl ?_
      show Steps p.tables e below (T1.setTop (mkF m 8 #[.val (.ref o), .val (.int (own_h fa a (i - a))), .val (.int (Int32.ofNat i))] [(.int (Int32.ofNat i))])) _
      refine XS.aloadN X1.here hx rfl (own_hb hby d7_8) rfl rfl ?_
      exact kt
    obtain ⟨T35, X35, e35, st35⟩ := getF X1 hx hZ hown (host := "") (Or.inl (hw _ (List.mem_of_getElem? (i := 36) rfl))) Via.refl e1 pr4 (g := (mkF m 9 #[.val (.ref o), .val (.int (own_h fa a (i - a))), .val (.int (Int32.ofNat i))] [(.ref o), (.int (Int32.ofNat i))])) rfl rfl (own_hb hby d7_9)
    refine own_Go.of (S' := (T35.setTop (mkF m 12 #[.val (.ref o), .val (.int (own_h fa a (i - a))), .val (.int (Int32.ofNat i))] [(.int (Int32.ofNat b)), (.int (Int32.ofNat i))]))) st35 ?_
    refine own_Go.of (S' := (T35.setTop (mkF m 20 #[.val (.ref o), .val (.int (own_h fa a (i - a))), .val (.int (Int32.ofNat i))] [(.ref o), (.int ((31 : Int32) * (own_h fa a (i - a))))]))) (fun t kt => ?_) ?_
    · show Steps p.tables e below (T35.setTop (mkF m 12 #[.val (.ref o), .val (.int (own_h fa a (i - a))), .val (.int (Int32.ofNat i))] [(.int (Int32.ofNat b)), (.int (Int32.ofNat i))])) _
      refine XS.icmpNo X35.here hx rfl (own_hb hby d7_12) rfl (tlt ((own_ltN (by omega) (by omega)).mpr (by omega))).2.1 ?_
      show Steps p.tables e below (T35.setTop (mkF m 15 #[.val (.ref o), .val (.int (own_h fa a (i - a))), .val (.int (Int32.ofNat i))] [])) _
      refine XS.bipush X35.here hx rfl (own_hb hby d7_15) ?_
      show Steps p.tables e below (T35.setTop (mkF m 17 #[.val (.ref o), .val (.int (own_h fa a (i - a))), .val (.int (Int32.ofNat i))] [(.int (31 : Int32))])) _
      refine XS.iloadN X35.here hx rfl (own_hb hby d7_17) rfl ?_
      show Steps p.tables e below (T35.setTop (mkF m 18 #[.val (.ref o), .val (.int (own_h fa a (i - a))), .val (.int (Int32.ofNat i))] [(.int (own_h fa a (i - a))), (.int (31 : Int32))])) _
      refine XS.imul X35.here hx rfl (own_hb hby d7_18) rfl ?_
      show Steps p.tables e below (T35.setTop (mkF m 19 #[.val (.ref o), .val (.int (own_h fa a (i - a))), .val (.int (Int32.ofNat i))] [(.int ((31 : Int32) * (own_h fa a (i - a))))])) _
      refine XS.aloadN X35.here hx rfl (own_hb hby d7_19) rfl rfl ?_
      exact kt
    obtain ⟨T36, X36, e36, st36⟩ := getF X35 hx hZ hown (host := "") (Or.inl (hw _ (List.mem_of_getElem? (i := 32) rfl))) Via.refl e35 pr2 (g := (mkF m 20 #[.val (.ref o), .val (.int (own_h fa a (i - a))), .val (.int (Int32.ofNat i))] [(.ref o), (.int ((31 : Int32) * (own_h fa a (i - a))))])) rfl rfl (own_hb hby d7_20)
    refine own_Go.of (S' := (T36.setTop (mkF m 23 #[.val (.ref o), .val (.int (own_h fa a (i - a))), .val (.int (Int32.ofNat i))] [(.ref r), (.int ((31 : Int32) * (own_h fa a (i - a))))]))) st36 ?_
    refine own_Go.of (S' := (T36.setTop (mkF m 24 #[.val (.ref o), .val (.int (own_h fa a (i - a))), .val (.int (Int32.ofNat i))] [(.int (Int32.ofNat i)), (.ref r), (.int ((31 : Int32) * (own_h fa a (i - a))))]))) (fun t kt => ?_) ?_
    · show Steps p.tables e below (T36.setTop (mkF m 23 #[.val (.ref o), .val (.int (own_h fa a (i - a))), .val (.int (Int32.ofNat i))] [(.ref r), (.int ((31 : Int32) * (own_h fa a (i - a))))])) _
      refine XS.iloadN X36.here hx rfl (own_hb hby d7_23) rfl ?_
      exact kt
    obtain ⟨cl37, Ar37, hin37, hat37⟩ := own_Ar.get (j := (Int32.ofNat i)) (k := i) pr5 ⟨rfl, by omega⟩
    refine own_Go.of (S' := (T36.setTop (mkF m 7 #[.val (.ref o), .val (.int (own_h fa a (i + 1 - a))), .val (.int ((Int32.ofNat i) + (1 : Int32)))] []))) (fun t kt => ?_) ?_
    · show Steps p.tables e below (T36.setTop (mkF m 24 #[.val (.ref o), .val (.int (own_h fa a (i - a))), .val (.int (Int32.ofNat i))] [(.int (Int32.ofNat i)), (.ref r), (.int ((31 : Int32) * (own_h fa a (i - a))))])) _
      refine X36.baloadBytes hx (j := (Int32.ofNat i)) (v := (.int (fa i))) (by rw [e36]; exact Ar37.1) (State.isArrayOf_alike hZ.alike Ar37.2.1) Ar37.2.2 hin37 hat37 (g := (mkF m 24 #[.val (.ref o), .val (.int (own_h fa a (i - a))), .val (.int (Int32.ofNat i))] [(.int (Int32.ofNat i)), (.ref r), (.int ((31 : Int32) * (own_h fa a (i - a))))])) rfl rfl (own_hb hby d7_24) _ ?_
      show Steps p.tables e below (T36.setTop (mkF m 25 #[.val (.ref o), .val (.int (own_h fa a (i - a))), .val (.int (Int32.ofNat i))] [(.int (fa i)), (.int ((31 : Int32) * (own_h fa a (i - a))))])) _
      refine XS.iadd X36.here hx rfl (own_hb hby d7_25) rfl ?_
      show Steps p.tables e below (T36.setTop (mkF m 26 #[.val (.ref o), .val (.int (own_h fa a (i - a))), .val (.int (Int32.ofNat i))] [(.int (((31 : Int32) * (own_h fa a (i - a))) + (fa i)))])) _
      rw [show ((31 : Int32) * (own_h fa a (i - a))) + (fa i) = own_h fa a (i + 1 - a) from by rw [show i + 1 - a = (i - a) + 1 by omega]; show _ = (31 : Int32) * own_h fa a (i - a) + fa (a + (i - a)); rw [show a + (i - a) = i by omega]]
      show Steps p.tables e below (T36.setTop (mkF m 26 #[.val (.ref o), .val (.int (own_h fa a (i - a))), .val (.int (Int32.ofNat i))] [(.int (own_h fa a (i + 1 - a)))])) _
      refine XS.istoreN X36.here hx rfl (own_hb hby d7_26) rfl (l' := #[.val (.ref o), .val (.int (own_h fa a (i + 1 - a))), .val (.int (Int32.ofNat i))]) rfl ?_
      show Steps p.tables e below (T36.setTop (mkF m 27 #[.val (.ref o), .val (.int (own_h fa a (i + 1 - a))), .val (.int (Int32.ofNat i))] [])) _
      refine XS.iinc X36.here hx rfl (own_hb hby d7_27) rfl (l' := #[.val (.ref o), .val (.int (own_h fa a (i + 1 - a))), .val (.int ((Int32.ofNat i) + (1 : Int32)))]) rfl ?_
      show Steps p.tables e below (T36.setTop (mkF m 30 #[.val (.ref o), .val (.int (own_h fa a (i + 1 - a))), .val (.int ((Int32.ofNat i) + (1 : Int32)))] [])) _
      refine XS.goto X36.here hx rfl (pc0 := 30) (pc' := 7) rfl (own_hb hby d7_30) (by decide) (by decide) ?_
      exact kt
    refine own_Go.of (S' := (T36.setTop (mkF m 7 #[.val (.ref o), .val (.int (own_h fa a (i + 1 - a))), .val (.int (Int32.ofNat (i + 1)))] []))) (fun t kt => ?_) ?_
    · show Steps p.tables e below (T36.setTop (mkF m 7 #[.val (.ref o), .val (.int (own_h fa a (i + 1 - a))), .val (.int ((Int32.ofNat i) + (1 : Int32)))] [])) _
      rw [show Int32.ofNat i + (1 : Int32) = Int32.ofNat (i + 1) from own_addN i 1]
      exact kt
    exact ih (i + 1) X36 e36 N1 Z1 (by omega) (by omega) pr2 pr3 pr4 pr5 hh
set_option maxRecDepth 65536 in
set_option maxHeartbeats 40000000 in
theorem rm7 (l : Launch) (Z : State) (a0 : Array Value) (hw : ∀ d ∈ tables_1, d.before a0 Z = true) (ws : List Jvm.Cond) (o : Addr) (r : Addr) (a : Nat) (b : Nat) (fa : Nat → Int32) (h0 : Heap) (n0 : Nat) (Z0 : n0 ≤ h0.size) (pr0 : Fld Z h0 o "com/example/gridwire/gridwire/store/ByteSpan" "array" "[B" (.ref r)) (pr1 : Fld Z h0 o "com/example/gridwire/gridwire/store/ByteSpan" "from" "I" (.int (Int32.ofNat a))) (pr2 : Fld Z h0 o "com/example/gridwire/gridwire/store/ByteSpan" "to" "I" (.int (Int32.ofNat b))) (pr3 : own_Ar Z h0 r .byte 6 (own_I fa)) (hab : a ≤ b) (hbb : b ≤ 6) :
    own_Met l Z h0 (⟨"com/example/gridwire/gridwire/store/ByteSpan", "arraysHashCode", "()I"⟩ : MethodName) prog_80_method_8_code 3 (some .int) ws ({ frames := 0, cells := 0, slots := 0, locals := 0 } : Room) #[(.ref o)] (Q_rm7 Z o r a b fa h0 n0) := by
  refine own_enter (plainFor_of_name pn_7) ?_
  intro p e s m below meth c T0 X0 hx hby hml hret hlk hown hnm hZ e0
  have N0 := Fr.nil n0
  rw [show entryFrame m #[(.ref o)] 3 = (mkF m 0 #[.val (.ref o), .unset, .unset] []) from by first | (simp [entryFrame, mkF, argsToLocals, Value.category]; done) | rfl]
  refine own_Go.of (S' := (T0.setTop (mkF m 3 #[.val (.ref o), .val (.int (1 : Int32)), .unset] [(.ref o)]))) (fun t kt => ?_) ?_
  · show Steps p.tables e below (T0.setTop (mkF m 0 #[.val (.ref o), .unset, .unset] [])) _
    refine XS.iconst X0.here hx rfl (own_hb hby d7_0) ?_
    show Steps p.tables e below (T0.setTop (mkF m 1 #[.val (.ref o), .unset, .unset] [(.int (1 : Int32))])) _
    refine XS.istoreN X0.here hx rfl (own_hb hby d7_1) rfl (l' := #[.val (.ref o), .val (.int (1 : Int32)), .unset]) rfl ?_
    show Steps p.tables e below (T0.setTop (mkF m 2 #[.val (.ref o), .val (.int (1 : Int32)), .unset] [])) _
    refine XS.aloadN X0.here hx rfl (own_hb hby d7_2) rfl rfl ?_
    exact kt
  obtain ⟨T38, X38, e38, st38⟩ := getF X0 hx hZ hown (host := "") (Or.inl (hw _ (List.mem_of_getElem? (i := 34) rfl))) Via.refl e0 pr1 (g := (mkF m 3 #[.val (.ref o), .val (.int (1 : Int32)), .unset] [(.ref o)])) rfl rfl (own_hb hby d7_3)
  refine own_Go.of (S' := (T38.setTop (mkF m 6 #[.val (.ref o), .val (.int (1 : Int32)), .unset] [(.int (Int32.ofNat a))]))) st38 ?_
  refine own_Go.of (S' := (T38.setTop (mkF m 7 #[.val (.ref o), .val (.int (1 : Int32)), .val (.int (Int32.ofNat a))] []))) (fun t kt => ?_) ?_
  · show Steps p.tables e below (T38.setTop (mkF m 6 #[.val (.ref o), .val (.int (1 : Int32)), .unset] [(.int (Int32.ofNat a))])) _
    refine XS.istoreN X38.here hx rfl (own_hb hby d7_6) rfl (l' := #[.val (.ref o), .val (.int (1 : Int32)), .val (.int (Int32.ofNat a))]) rfl ?_
    exact kt
  rw [show (1 : Int32) = own_h fa a (a - a) from by rw [Nat.sub_self]; rfl]
  exact loop7 hw hx hZ hby hml hret hlk hown hnm o r a b fa h0 n0  hab hbb (b - a) a (own_mono X38 (by decide) (by decide)) e38 N0 Z0 (by omega) (Nat.le_refl a) pr0 pr1 pr2 pr3 rfl
theorem pn_0 : plainName "com/example/gridwire/gridwire/store/ByteSpanArraysHashCodePinLaw" = true := by first | (simp [plainName, overriddenIn]; done) | decide +kernel
def Q_rm0 (Z : State) (p0 : Int32) (p1 : Int32) (p2 : Int32) (p3 : Int32) (h0 : Heap) (n0 : Nat) (v : Option Value) (h : Heap) (L : List Loc) : Prop := v = some (.int (1 : Int32)) ∧ Fr n0 L
theorem pd_3 : parseMethodDescriptor "([B[IIII)I" = some ⟨[(.array .byte), (.array .int), .int, .int, .int], some .int⟩ := by decide +kernel
theorem pd_4 : parseMethodDescriptor "([BII)V" = some ⟨[(.array .byte), .int, .int], none⟩ := by decide +kernel
theorem pd_5 : parseMethodDescriptor "()I" = some ⟨[], some .int⟩ := by decide +kernel
set_option maxRecDepth 65536 in
set_option maxHeartbeats 40000000 in
theorem rm0 (l : Launch) (Z : State) (a0 : Array Value) (hw : ∀ d ∈ tables_1, d.before a0 Z = true) (ws : List Jvm.Cond) (p0 : Int32) (p1 : Int32) (p2 : Int32) (p3 : Int32) (h0 : Heap) (n0 : Nat) (Z0 : n0 ≤ h0.size)  :
    own_Met l Z h0 x code maxLocals ret ws room_1 #[(.int p0), (.int p1), (.int p2), (.int p3)] (Q_rm0 Z p0 p1 p2 p3 h0 n0) := by
  refine own_enter (plainFor_of_name pn_0) ?_
  intro p e s m below meth c T0 X0 hx hby hml hret hlk hown hnm hZ e0
  have N0 := Fr.nil n0
  rw [show entryFrame m #[(.int p0), (.int p1), (.int p2), (.int p3)] maxLocals = (mkF m 0 #[.val (.int p0), .val (.int p1), .val (.int p2), .val (.int p3), .unset, .unset, .unset, .unset, .unset, .unset] []) from by first | (simp [entryFrame, mkF, argsToLocals, Value.category, maxLocals]; done) | rfl]
  obtain ⟨k1, hk1, ek1⟩ : ∃ n : Nat, n ≤ 2147483647 ∧ (p2 &&& (2147483647 : Int32)) = Int32.ofNat n := own_mask p2 2147483647
  obtain ⟨k2, hk2, ek2⟩ : ∃ n : Nat, n ≤ 2147483647 ∧ (p3 &&& (2147483647 : Int32)) = Int32.ofNat n := own_mask p3 2147483647
  obtain ⟨a, ha⟩ : ∃ a, a = k1 % 7 := ⟨_, rfl⟩
  have ha7 : a < 7 := by omega
  obtain ⟨b, hb0⟩ : ∃ b, b = a + k2 % (7 - a) := ⟨_, rfl⟩
  have hm2 : k2 % (7 - a) < 7 - a := Nat.mod_lt _ (by omega)
  have ea : Int32.ofNat k1 - (Int32.ofNat k1 / (7 : Int32)) * (7 : Int32) = Int32.ofNat a := by rw [ha]; exact own_remN (a := k1) (b := 7) (by omega) (by omega)
  have e7 : (7 : Int32) - Int32.ofNat a = Int32.ofNat (7 - a) := own_subN (a := 7) (b := a) (by omega)
  have eb : Int32.ofNat k2 - (Int32.ofNat k2 / Int32.ofNat (7 - a)) * Int32.ofNat (7 - a) = Int32.ofNat (k2 % (7 - a)) := own_remN (by omega) (by omega)
  have eb2 : Int32.ofNat a + Int32.ofNat (k2 % (7 - a)) = Int32.ofNat b := by rw [hb0]; exact own_addN _ _
  have hab : a ≤ b := by omega
  have hb : b ≤ 6 := by omega
  refine own_Go.of (S' := (T0.setTop (mkF m 2 #[.val (.int p0), .val (.int p1), .val (.int p2), .val (.int p3), .unset, .unset, .unset, .unset, .unset, .unset] [(.int (6 : Int32))]))) (fun t kt => ?_) ?_
  · show Steps p.tables e below (T0.setTop (mkF m 0 #[.val (.int p0), .val (.int p1), .val (.int p2), .val (.int p3), .unset, .unset, .unset, .unset, .unset, .unset] [])) _
    refine XS.bipush X0.here hx rfl (own_hb hby at_0) ?_
    exact kt
  obtain ⟨T39, h39, X39, e39, E39, A39, st39⟩ := own_newP X0 hx hZ (hw _ (List.mem_of_getElem? (i := 0) rfl)) e0 (g := (mkF m 2 #[.val (.int p0), .val (.int p1), .val (.int p2), .val (.int p3), .unset, .unset, .unset, .unset, .unset, .unset] [(.int (6 : Int32))])) rfl (own_hb hby at_2) rfl (n := 6) (cap := 6) rfl (by decide) (by decide) (by decide) (by decide)
  obtain ⟨b39, g39⟩ : ∃ z, z = h0.size := ⟨_, rfl⟩
  rw [← g39] at A39 st39
  have gx39 : n0 ≤ b39 := Nat.le_trans Z0 (Nat.le_of_eq g39.symm)
  refine own_Go.of (S' := (T39.setTop (mkF m 4 #[.val (.int p0), .val (.int p1), .val (.int p2), .val (.int p3), .unset, .unset, .unset, .unset, .unset, .unset] [(.ref b39)]))) st39 ?_
  have z40 : n0 ≤ h39.size := Nat.le_trans Z0 E39.1
  have f41 : own_Ar Z h39 b39 .byte 6 (own_I (fun _ => (0 : Int32))) := A39
  refine own_Go.of (S' := (T39.setTop (mkF m 11 #[.val (.int p0), .val (.int p1), .val (.int p2), .val (.int p3), .val (.ref b39), .unset, .unset, .unset, .unset, .unset] [(.int (p0.toInt8.toInt32)), (.int (0 : Int32)), (.ref b39)]))) (fun t kt => ?_) ?_
  · show Steps p.tables e below (T39.setTop (mkF m 4 #[.val (.int p0), .val (.int p1), .val (.int p2), .val (.int p3), .unset, .unset, .unset, .unset, .unset, .unset] [(.ref b39)])) _
    refine XS.astore X39.here hx rfl (own_hb hby at_4) rfl rfl (l' := #[.val (.int p0), .val (.int p1), .val (.int p2), .val (.int p3), .val (.ref b39), .unset, .unset, .unset, .unset, .unset]) rfl ?_
    show Steps p.tables e below (T39.setTop (mkF m 6 #[.val (.int p0), .val (.int p1), .val (.int p2), .val (.int p3), .val (.ref b39), .unset, .unset, .unset, .unset, .unset] [])) _
    refine XS.aload X39.here hx rfl (own_hb hby at_6) rfl rfl ?_
    show Steps p.tables e below (T39.setTop (mkF m 8 #[.val (.int p0), .val (.int p1), .val (.int p2), .val (.int p3), .val (.ref b39), .unset, .unset, .unset, .unset, .unset] [(.ref b39)])) _
    refine XS.iconst X39.here hx rfl (own_hb hby at_8) ?_
    show Steps p.tables e below (T39.setTop (mkF m 9 #[.val (.int p0), .val (.int p1), .val (.int p2), .val (.int p3), .val (.ref b39), .unset, .unset, .unset, .unset, .unset] [(.int (0 : Int32)), (.ref b39)])) _
    refine XS.iloadN X39.here hx rfl (own_hb hby at_9) rfl ?_
    show Steps p.tables e below (T39.setTop (mkF m 10 #[.val (.int p0), .val (.int p1), .val (.int p2), .val (.int p3), .val (.ref b39), .unset, .unset, .unset, .unset, .unset] [(.int p0), (.int (0 : Int32)), (.ref b39)])) _
    refine XS.i2b X39.here hx rfl (own_hb hby at_10) rfl ?_
    exact kt
  obtain ⟨cl42, Ar42, hin42, ub42⟩ := own_Ar.put (j := (0 : Int32)) (k := 0) f41 ⟨rfl, by decide⟩
  obtain ⟨T42, h42, X42, e42, W42, st42⟩ := stB X39 hx hZ e39 Ar42 (j := (0 : Int32)) hin42 (g := (mkF m 11 #[.val (.int p0), .val (.int p1), .val (.int p2), .val (.int p3), .val (.ref b39), .unset, .unset, .unset, .unset, .unset] [(.int (p0.toInt8.toInt32)), (.int (0 : Int32)), (.ref b39)])) rfl rfl (own_hb hby at_11)
  refine own_Go.of (S' := (T42.setTop (mkF m 12 #[.val (.int p0), .val (.int p1), .val (.int p2), .val (.int p3), .val (.ref b39), .unset, .unset, .unset, .unset, .unset] []))) st42 ?_
  have z43 : n0 ≤ h42.size := Nat.le_trans z40 (Keep.of_wr W42).1
  have f44 : own_Ar Z h42 b39 .byte 6 (own_I (own_set (fun _ => (0 : Int32)) 0 (nar .byte (p0.toInt8.toInt32)))) := by rw [← own_upI]; exact ub42 (fits_nar_byte _) W42
  have N42 := Fr.snoc X42 N0 gx39
  refine own_Go.of (S' := (T42.setTop (mkF m 20 #[.val (.int p0), .val (.int p1), .val (.int p2), .val (.int p3), .val (.ref b39), .unset, .unset, .unset, .unset, .unset] [(.int ((p0 >>> ((8 : Int32) &&& 31)).toInt8.toInt32)), (.int (1 : Int32)), (.ref b39)]))) (fun t kt => ?_) ?_
  · show Steps p.tables e below (T42.setTop (mkF m 12 #[.val (.int p0), .val (.int p1), .val (.int p2), .val (.int p3), .val (.ref b39), .unset, .unset, .unset, .unset, .unset] [])) _
    refine XS.aload X42.here hx rfl (own_hb hby at_12) rfl rfl ?_
    show Steps p.tables e below (T42.setTop (mkF m 14 #[.val (.int p0), .val (.int p1), .val (.int p2), .val (.int p3), .val (.ref b39), .unset, .unset, .unset, .unset, .unset] [(.ref b39)])) _
    refine XS.iconst X42.here hx rfl (own_hb hby at_14) ?_
    show Steps p.tables e below (T42.setTop (mkF m 15 #[.val (.int p0), .val (.int p1), .val (.int p2), .val (.int p3), .val (.ref b39), .unset, .unset, .unset, .unset, .unset] [(.int (1 : Int32)), (.ref b39)])) _
    refine XS.iloadN X42.here hx rfl (own_hb hby at_15) rfl ?_
    show Steps p.tables e below (T42.setTop (mkF m 16 #[.val (.int p0), .val (.int p1), .val (.int p2), .val (.int p3), .val (.ref b39), .unset, .unset, .unset, .unset, .unset] [(.int p0), (.int (1 : Int32)), (.ref b39)])) _
    refine XS.bipush X42.here hx rfl (own_hb hby at_16) ?_
    show Steps p.tables e below (T42.setTop (mkF m 18 #[.val (.int p0), .val (.int p1), .val (.int p2), .val (.int p3), .val (.ref b39), .unset, .unset, .unset, .unset, .unset] [(.int (8 : Int32)), (.int p0), (.int (1 : Int32)), (.ref b39)])) _
    refine XS.ishr X42.here hx rfl (own_hb hby at_18) rfl ?_
    show Steps p.tables e below (T42.setTop (mkF m 19 #[.val (.int p0), .val (.int p1), .val (.int p2), .val (.int p3), .val (.ref b39), .unset, .unset, .unset, .unset, .unset] [(.int (p0 >>> ((8 : Int32) &&& 31))), (.int (1 : Int32)), (.ref b39)])) _
    refine XS.i2b X42.here hx rfl (own_hb hby at_19) rfl ?_
    exact kt
  obtain ⟨cl45, Ar45, hin45, ub45⟩ := own_Ar.put (j := (1 : Int32)) (k := 1) f44 ⟨rfl, by decide⟩
  obtain ⟨T45, h45, X45, e45, W45, st45⟩ := stB X42 hx hZ e42 Ar45 (j := (1 : Int32)) hin45 (g := (mkF m 20 #[.val (.int p0), .val (.int p1), .val (.int p2), .val (.int p3), .val (.ref b39), .unset, .unset, .unset, .unset, .unset] [(.int ((p0 >>> ((8 : Int32) &&& 31)).toInt8.toInt32)), (.int (1 : Int32)), (.ref b39)])) rfl rfl (own_hb hby at_20)
  refine own_Go.of (S' := (T45.setTop (mkF m 21 #[.val (.int p0), .val (.int p1), .val (.int p2), .val (.int p3), .val (.ref b39), .unset, .unset, .unset, .unset, .unset] []))) st45 ?_
  have z46 : n0 ≤ h45.size := Nat.le_trans z43 (Keep.of_wr W45).1
  have f47 : own_Ar Z h45 b39 .byte 6 (own_I (own_set (own_set (fun _ => (0 : Int32)) 0 (nar .byte (p0.toInt8.toInt32))) 1 (nar .byte ((p0 >>> ((8 : Int32) &&& 31)).toInt8.toInt32)))) := by rw [← own_upI]; exact ub45 (fits_nar_byte _) W45
  have N45 := Fr.snoc X45 N42 gx39
  refine own_Go.of (S' := (T45.setTop (mkF m 29 #[.val (.int p0), .val (.int p1), .val (.int p2), .val (.int p3), .val (.ref b39), .unset, .unset, .unset, .unset, .unset] [(.int ((p0 >>> ((16 : Int32) &&& 31)).toInt8.toInt32)), (.int (2 : Int32)), (.ref b39)]))) (fun t kt => ?_) ?_
  · show Steps p.tables e below (T45.setTop (mkF m 21 #[.val (.int p0), .val (.int p1), .val (.int p2), .val (.int p3), .val (.ref b39), .unset, .unset, .unset, .unset, .unset] [])) _
    refine XS.aload X45.here hx rfl (own_hb hby at_21) rfl rfl ?_
    show Steps p.tables e below (T45.setTop (mkF m 23 #[.val (.int p0), .val (.int p1), .val (.int p2), .val (.int p3), .val (.ref b39), .unset, .unset, .unset, .unset, .unset] [(.ref b39)])) _
    refine XS.iconst X45.here hx rfl (own_hb hby at_23) ?_
    show Steps p.tables e below (T45.setTop (mkF m 24 #[.val (.int p0), .val (.int p1), .val (.int p2), .val (.int p3), .val (.ref b39), .unset, .unset, .unset, .unset, .unset] [(.int (2 : Int32)), (.ref b39)])) _
    refine XS.iloadN X45.here hx rfl (own_hb hby at_24) rfl ?_
    show Steps p.tables e below (T45.setTop (mkF m 25 #[.val (.int p0), .val (.int p1), .val (.int p2), .val (.int p3), .val (.ref b39), .unset, .unset, .unset, .unset, .unset] [(.int p0), (.int (2 : Int32)), (.ref b39)])) _
    refine XS.bipush X45.here hx rfl (own_hb hby at_25) ?_
    show Steps p.tables e below (T45.setTop (mkF m 27 #[.val (.int p0), .val (.int p1), .val (.int p2), .val (.int p3), .val (.ref b39), .unset, .unset, .unset, .unset, .unset] [(.int (16 : Int32)), (.int p0), (.int (2 : Int32)), (.ref b39)])) _
    refine XS.ishr X45.here hx rfl (own_hb hby at_27) rfl ?_
    show Steps p.tables e below (T45.setTop (mkF m 28 #[.val (.int p0), .val (.int p1), .val (.int p2), .val (.int p3), .val (.ref b39), .unset, .unset, .unset, .unset, .unset] [(.int (p0 >>> ((16 : Int32) &&& 31))), (.int (2 : Int32)), (.ref b39)])) _
    refine XS.i2b X45.here hx rfl (own_hb hby at_28) rfl ?_
    exact kt
  obtain ⟨cl48, Ar48, hin48, ub48⟩ := own_Ar.put (j := (2 : Int32)) (k := 2) f47 ⟨rfl, by decide⟩
  obtain ⟨T48, h48, X48, e48, W48, st48⟩ := stB X45 hx hZ e45 Ar48 (j := (2 : Int32)) hin48 (g := (mkF m 29 #[.val (.int p0), .val (.int p1), .val (.int p2), .val (.int p3), .val (.ref b39), .unset, .unset, .unset, .unset, .unset] [(.int ((p0 >>> ((16 : Int32) &&& 31)).toInt8.toInt32)), (.int (2 : Int32)), (.ref b39)])) rfl rfl (own_hb hby at_29)
  refine own_Go.of (S' := (T48.setTop (mkF m 30 #[.val (.int p0), .val (.int p1), .val (.int p2), .val (.int p3), .val (.ref b39), .unset, .unset, .unset, .unset, .unset] []))) st48 ?_
  have z49 : n0 ≤ h48.size := Nat.le_trans z46 (Keep.of_wr W48).1
  have f50 : own_Ar Z h48 b39 .byte 6 (own_I (own_set (own_set (own_set (fun _ => (0 : Int32)) 0 (nar .byte (p0.toInt8.toInt32))) 1 (nar .byte ((p0 >>> ((8 : Int32) &&& 31)).toInt8.toInt32))) 2 (nar .byte ((p0 >>> ((16 : Int32) &&& 31)).toInt8.toInt32)))) := by rw [← own_upI]; exact ub48 (fits_nar_byte _) W48
  have N48 := Fr.snoc X48 N45 gx39
  refine own_Go.of (S' := (T48.setTop (mkF m 38 #[.val (.int p0), .val (.int p1), .val (.int p2), .val (.int p3), .val (.ref b39), .unset, .unset, .unset, .unset, .unset] [(.int (((p0.toUInt32 >>> ((24 : Int32) &&& 31).toUInt32).toInt32).toInt8.toInt32)), (.int (3 : Int32)), (.ref b39)]))) (fun t kt => ?_) ?_
  · show Steps p.tables e below (T48.setTop (mkF m 30 #[.val (.int p0), .val (.int p1), .val (.int p2), .val (.int p3), .val (.ref b39), .unset, .unset, .unset, .unset, .unset] [])) _
    refine XS.aload X48.here hx rfl (own_hb hby at_30) rfl rfl ?_
    show Steps p.tables e below (T48.setTop (mkF m 32 #[.val (.int p0), .val (.int p1), .val (.int p2), .val (.int p3), .val (.ref b39), .unset, .unset, .unset, .unset, .unset] [(.ref b39)])) _
    refine XS.iconst X48.here hx rfl (own_hb hby at_32) ?_
    show Steps p.tables e below (T48.setTop (mkF m 33 #[.val (.int p0), .val (.int p1), .val (.int p2), .val (.int p3), .val (.ref b39), .unset, .unset, .unset, .unset, .unset] [(.int (3 : Int32)), (.ref b39)])) _
    refine XS.iloadN X48.here hx rfl (own_hb hby at_33) rfl ?_
    show Steps p.tables e below (T48.setTop (mkF m 34 #[.val (.int p0), .val (.int p1), .val (.int p2), .val (.int p3), .val (.ref b39), .unset, .unset, .unset, .unset, .unset] [(.int p0), (.int (3 : Int32)), (.ref b39)])) _
    refine XS.bipush X48.here hx rfl (own_hb hby at_34) ?_
    show Steps p.tables e below (T48.setTop (mkF m 36 #[.val (.int p0), .val (.int p1), .val (.int p2), .val (.int p3), .val (.ref b39), .unset, .unset, .unset, .unset, .unset] [(.int (24 : Int32)), (.int p0), (.int (3 : Int32)), (.ref b39)])) _
    refine XS.iushr X48.here hx rfl (own_hb hby at_36) rfl ?_
    show Steps p.tables e below (T48.setTop (mkF m 37 #[.val (.int p0), .val (.int p1), .val (.int p2), .val (.int p3), .val (.ref b39), .unset, .unset, .unset, .unset, .unset] [(.int ((p0.toUInt32 >>> ((24 : Int32) &&& 31).toUInt32).toInt32)), (.int (3 : Int32)), (.ref b39)])) _
    refine XS.i2b X48.here hx rfl (own_hb hby at_37) rfl ?_
    exact kt
  obtain ⟨cl51, Ar51, hin51, ub51⟩ := own_Ar.put (j := (3 : Int32)) (k := 3) f50 ⟨rfl, by decide⟩
  obtain ⟨T51, h51, X51, e51, W51, st51⟩ := stB X48 hx hZ e48 Ar51 (j := (3 : Int32)) hin51 (g := (mkF m 38 #[.val (.int p0), .val (.int p1), .val (.int p2), .val (.int p3), .val (.ref b39), .unset, .unset, .unset, .unset, .unset] [(.int (((p0.toUInt32 >>> ((24 : Int32) &&& 31).toUInt32).toInt32).toInt8.toInt32)), (.int (3 : Int32)), (.ref b39)])) rfl rfl (own_hb hby at_38)
  refine own_Go.of (S' := (T51.setTop (mkF m 39 #[.val (.int p0), .val (.int p1), .val (.int p2), .val (.int p3), .val (.ref b39), .unset, .unset, .unset, .unset, .unset] []))) st51 ?_
  have z52 : n0 ≤ h51.size := Nat.le_trans z49 (Keep.of_wr W51).1
  have f53 : own_Ar Z h51 b39 .byte 6 (own_I (own_set (own_set (own_set (own_set (fun _ => (0 : Int32)) 0 (nar .byte (p0.toInt8.toInt32))) 1 (nar .byte ((p0 >>> ((8 : Int32) &&& 31)).toInt8.toInt32))) 2 (nar .byte ((p0 >>> ((16 : Int32) &&& 31)).toInt8.toInt32))) 3 (nar .byte (((p0.toUInt32 >>> ((24 : Int32) &&& 31).toUInt32).toInt32).toInt8.toInt32)))) := by rw [← own_upI]; exact ub51 (fits_nar_byte _) W51
  have N51 := Fr.snoc X51 N48 gx39
  refine own_Go.of (S' := (T51.setTop (mkF m 44 #[.val (.int p0), .val (.int p1), .val (.int p2), .val (.int p3), .val (.ref b39), .unset, .unset, .unset, .unset, .unset] [(.int (p1.toInt8.toInt32)), (.int (4 : Int32)), (.ref b39)]))) (fun t kt => ?_) ?_
  · show Steps p.tables e below (T51.setTop (mkF m 39 #[.val (.int p0), .val (.int p1), .val (.int p2), .val (.int p3), .val (.ref b39), .unset, .unset, .unset, .unset, .unset] [])) _
    refine XS.aload X51.here hx rfl (own_hb hby at_39) rfl rfl ?_
    show Steps p.tables e below (T51.setTop (mkF m 41 #[.val (.int p0), .val (.int p1), .val (.int p2), .val (.int p3), .val (.ref b39), .unset, .unset, .unset, .unset, .unset] [(.ref b39)])) _
    refine XS.iconst X51.here hx rfl (own_hb hby at_41) ?_
    show Steps p.tables e below (T51.setTop (mkF m 42 #[.val (.int p0), .val (.int p1), .val (.int p2), .val (.int p3), .val (.ref b39), .unset, .unset, .unset, .unset, .unset] [(.int (4 : Int32)), (.ref b39)])) _
    refine XS.iloadN X51.here hx rfl (own_hb hby at_42) rfl ?_
    show Steps p.tables e below (T51.setTop (mkF m 43 #[.val (.int p0), .val (.int p1), .val (.int p2), .val (.int p3), .val (.ref b39), .unset, .unset, .unset, .unset, .unset] [(.int p1), (.int (4 : Int32)), (.ref b39)])) _
    refine XS.i2b X51.here hx rfl (own_hb hby at_43) rfl ?_
    exact kt
  obtain ⟨cl54, Ar54, hin54, ub54⟩ := own_Ar.put (j := (4 : Int32)) (k := 4) f53 ⟨rfl, by decide⟩
  obtain ⟨T54, h54, X54, e54, W54, st54⟩ := stB X51 hx hZ e51 Ar54 (j := (4 : Int32)) hin54 (g := (mkF m 44 #[.val (.int p0), .val (.int p1), .val (.int p2), .val (.int p3), .val (.ref b39), .unset, .unset, .unset, .unset, .unset] [(.int (p1.toInt8.toInt32)), (.int (4 : Int32)), (.ref b39)])) rfl rfl (own_hb hby at_44)
  refine own_Go.of (S' := (T54.setTop (mkF m 45 #[.val (.int p0), .val (.int p1), .val (.int p2), .val (.int p3), .val (.ref b39), .unset, .unset, .unset, .unset, .unset] []))) st54 ?_
  have z55 : n0 ≤ h54.size := Nat.le_trans z52 (Keep.of_wr W54).1
  have f56 : own_Ar Z h54 b39 .byte 6 (own_I (own_set (own_set (own_set (own_set (own_set (fun _ => (0 : Int32)) 0 (nar .byte (p0.toInt8.toInt32))) 1 (nar .byte ((p0 >>> ((8 : Int32) &&& 31)).toInt8.toInt32))) 2 (nar .byte ((p0 >>> ((16 : Int32) &&& 31)).toInt8.toInt32))) 3 (nar .byte (((p0.toUInt32 >>> ((24 : Int32) &&& 31).toUInt32).toInt32).toInt8.toInt32))) 4 (nar .byte (p1.toInt8.toInt32)))) := by rw [← own_upI]; exact ub54 (fits_nar_byte _) W54
  have N54 := Fr.snoc X54 N51 gx39
  refine own_Go.of (S' := (T54.setTop (mkF m 53 #[.val (.int p0), .val (.int p1), .val (.int p2), .val (.int p3), .val (.ref b39), .unset, .unset, .unset, .unset, .unset] [(.int ((p1 >>> ((8 : Int32) &&& 31)).toInt8.toInt32)), (.int (5 : Int32)), (.ref b39)]))) (fun t kt => ?_) ?_
  · show Steps p.tables e below (T54.setTop (mkF m 45 #[.val (.int p0), .val (.int p1), .val (.int p2), .val (.int p3), .val (.ref b39), .unset, .unset, .unset, .unset, .unset] [])) _
    refine XS.aload X54.here hx rfl (own_hb hby at_45) rfl rfl ?_
    show Steps p.tables e below (T54.setTop (mkF m 47 #[.val (.int p0), .val (.int p1), .val (.int p2), .val (.int p3), .val (.ref b39), .unset, .unset, .unset, .unset, .unset] [(.ref b39)])) _
    refine XS.iconst X54.here hx rfl (own_hb hby at_47) ?_
    show Steps p.tables e below (T54.setTop (mkF m 48 #[.val (.int p0), .val (.int p1), .val (.int p2), .val (.int p3), .val (.ref b39), .unset, .unset, .unset, .unset, .unset] [(.int (5 : Int32)), (.ref b39)])) _
    refine XS.iloadN X54.here hx rfl (own_hb hby at_48) rfl ?_
    show Steps p.tables e below (T54.setTop (mkF m 49 #[.val (.int p0), .val (.int p1), .val (.int p2), .val (.int p3), .val (.ref b39), .unset, .unset, .unset, .unset, .unset] [(.int p1), (.int (5 : Int32)), (.ref b39)])) _
    refine XS.bipush X54.here hx rfl (own_hb hby at_49) ?_
    show Steps p.tables e below (T54.setTop (mkF m 51 #[.val (.int p0), .val (.int p1), .val (.int p2), .val (.int p3), .val (.ref b39), .unset, .unset, .unset, .unset, .unset] [(.int (8 : Int32)), (.int p1), (.int (5 : Int32)), (.ref b39)])) _
    refine XS.ishr X54.here hx rfl (own_hb hby at_51) rfl ?_
    show Steps p.tables e below (T54.setTop (mkF m 52 #[.val (.int p0), .val (.int p1), .val (.int p2), .val (.int p3), .val (.ref b39), .unset, .unset, .unset, .unset, .unset] [(.int (p1 >>> ((8 : Int32) &&& 31))), (.int (5 : Int32)), (.ref b39)])) _
    refine XS.i2b X54.here hx rfl (own_hb hby at_52) rfl ?_
    exact kt
  obtain ⟨cl57, Ar57, hin57, ub57⟩ := own_Ar.put (j := (5 : Int32)) (k := 5) f56 ⟨rfl, by decide⟩
  obtain ⟨T57, h57, X57, e57, W57, st57⟩ := stB X54 hx hZ e54 Ar57 (j := (5 : Int32)) hin57 (g := (mkF m 53 #[.val (.int p0), .val (.int p1), .val (.int p2), .val (.int p3), .val (.ref b39), .unset, .unset, .unset, .unset, .unset] [(.int ((p1 >>> ((8 : Int32) &&& 31)).toInt8.toInt32)), (.int (5 : Int32)), (.ref b39)])) rfl rfl (own_hb hby at_53)
  refine own_Go.of (S' := (T57.setTop (mkF m 54 #[.val (.int p0), .val (.int p1), .val (.int p2), .val (.int p3), .val (.ref b39), .unset, .unset, .unset, .unset, .unset] []))) st57 ?_
  have z58 : n0 ≤ h57.size := Nat.le_trans z55 (Keep.of_wr W57).1
  have f59 : own_Ar Z h57 b39 .byte 6 (own_I (own_set (own_set (own_set (own_set (own_set (own_set (fun _ => (0 : Int32)) 0 (nar .byte (p0.toInt8.toInt32))) 1 (nar .byte ((p0 >>> ((8 : Int32) &&& 31)).toInt8.toInt32))) 2 (nar .byte ((p0 >>> ((16 : Int32) &&& 31)).toInt8.toInt32))) 3 (nar .byte (((p0.toUInt32 >>> ((24 : Int32) &&& 31).toUInt32).toInt32).toInt8.toInt32))) 4 (nar .byte (p1.toInt8.toInt32))) 5 (nar .byte ((p1 >>> ((8 : Int32) &&& 31)).toInt8.toInt32)))) := by rw [← own_upI]; exact ub57 (fits_nar_byte _) W57
  have N57 := Fr.snoc X57 N54 gx39
  have f60 : own_Ar Z h57 b39 .byte 6 (own_I (own_by p0 p1)) := f59.eqvI (fun i hi => rfl)
  refine own_Go.of (S' := (T57.setTop (mkF m 80 #[.val (.int p0), .val (.int p1), .val (.int p2), .val (.int p3), .val (.ref b39), .val (.int (Int32.ofNat a)), .val (.int (Int32.ofNat b)), .unset, .unset, .unset] [(.int (7 : Int32))]))) (fun t kt => ?_) ?_
  · show Steps p.tables e below (T57.setTop (mkF m 54 #[.val (.int p0), .val (.int p1), .val (.int p2), .val (.int p3), .val (.ref b39), .unset, .unset, .unset, .unset, .unset] [])) _
    refine XS.iloadN X57.here hx rfl (own_hb hby at_54) rfl ?_
    show Steps p.tables e below (T57.setTop (mkF m 55 #[.val (.int p0), .val (.int p1), .val (.int p2), .val (.int p3), .val (.ref b39), .unset, .unset, .unset, .unset, .unset] [(.int p2)])) _
    refine X57.ldcInt hx hown (mvT hZ (hw _ (List.mem_of_getElem? (i := 1) rfl))) (g := (mkF m 55 #[.val (.int p0), .val (.int p1), .val (.int p2), .val (.int p3), .val (.ref b39), .unset, .unset, .unset, .unset, .unset] [(.int p2)])) rfl (own_hb hby at_55) _ ?_
    show Steps p.tables e below (T57.setTop (mkF m 57 #[.val (.int p0), .val (.int p1), .val (.int p2), .val (.int p3), .val (.ref b39), .unset, .unset, .unset, .unset, .unset] [(.int (2147483647 : Int32)), (.int p2)])) _
    refine XS.iand X57.here hx rfl (own_hb hby at_57) rfl ?_
    show Steps p.tables e below (T57.setTop (mkF m 58 #[.val (.int p0), .val (.int p1), .val (.int p2), .val (.int p3), .val (.ref b39), .unset, .unset, .unset, .unset, .unset] [(.int (p2 &&& (2147483647 : Int32)))])) _
    rw [ek1]
    show Steps p.tables e below (T57.setTop (mkF m 58 #[.val (.int p0), .val (.int p1), .val (.int p2), .val (.int p3), .val (.ref b39), .unset, .unset, .unset, .unset, .unset] [(.int (Int32.ofNat k1))])) _
    refine XS.bipush X57.here hx rfl (own_hb hby at_58) ?_
    show Steps p.tables e below (T57.setTop (mkF m 60 #[.val (.int p0), .val (.int p1), .val (.int p2), .val (.int p3), .val (.ref b39), .unset, .unset, .unset, .unset, .unset] [(.int (7 : Int32)), (.int (Int32.ofNat k1))])) _
    refine XS.irem X57.here hx rfl (own_hb hby at_60) rfl (by decide) ?_
    show Steps p.tables e below (T57.setTop (mkF m 61 #[.val (.int p0), .val (.int p1), .val (.int p2), .val (.int p3), .val (.ref b39), .unset, .unset, .unset, .unset, .unset] [(.int ((Int32.ofNat k1) - ((Int32.ofNat k1) / (7 : Int32)) * (7 : Int32)))])) _
    rw [ea]
    show Steps p.tables e below (T57.setTop (mkF m 61 #[.val (.int p0), .val (.int p1), .val (.int p2), .val (.int p3), .val (.ref b39), .unset, .unset, .unset, .unset, .unset] [(.int (Int32.ofNat a))])) _
    refine XS.istore X57.here hx rfl (own_hb hby at_61) rfl (l' := #[.val (.int p0), .val (.int p1), .val (.int p2), .val (.int p3), .val (.ref b39), .val (.int (Int32.ofNat a)), .unset, .unset, .unset, .unset]) rfl ?_
    show Steps p.tables e below (T57.setTop (mkF m 63 #[.val (.int p0), .val (.int p1), .val (.int p2), .val (.int p3), .val (.ref b39), .val (.int (Int32.ofNat a)), .unset, .unset, .unset, .unset] [])) _
    refine XS.iload X57.here hx rfl (own_hb hby at_63) rfl ?_
    show Steps p.tables e below (T57.setTop (mkF m 65 #[.val (.int p0), .val (.int p1), .val (.int p2), .val (.int p3), .val (.ref b39), .val (.int (Int32.ofNat a)), .unset, .unset, .unset, .unset] [(.int (Int32.ofNat a))])) _
    refine XS.iloadN X57.here hx rfl (own_hb hby at_65) rfl ?_
    show Steps p.tables e below (T57.setTop (mkF m 66 #[.val (.int p0), .val (.int p1), .val (.int p2), .val (.int p3), .val (.ref b39), .val (.int (Int32.ofNat a)), .unset, .unset, .unset, .unset] [(.int p3), (.int (Int32.ofNat a))])) _
    refine X57.ldcInt hx hown (mvT hZ (hw _ (List.mem_of_getElem? (i := 1) rfl))) (g := (mkF m 66 #[.val (.int p0), .val (.int p1), .val (.int p2), .val (.int p3), .val (.ref b39), .val (.int (Int32.ofNat a)), .unset, .unset, .unset, .unset] [(.int p3), (.int (Int32.ofNat a))])) rfl (own_hb hby at_66) _ ?_
    show Steps p.tables e below (T57.setTop (mkF m 68 #[.val (.int p0), .val (.int p1), .val (.int p2), .val (.int p3), .val (.ref b39), .val (.int (Int32.ofNat a)), .unset, .unset, .unset, .unset] [(.int (2147483647 : Int32)), (.int p3), (.int (Int32.ofNat a))])) _
    refine XS.iand X57.here hx rfl (own_hb hby at_68) rfl ?_
    show Steps p.tables e below (T57.setTop (mkF m 69 #[.val (.int p0), .val (.int p1), .val (.int p2), .val (.int p3), .val (.ref b39), .val (.int (Int32.ofNat a)), .unset, .unset, .unset, .unset] [(.int (p3 &&& (2147483647 : Int32))), (.int (Int32.ofNat a))])) _
    rw [ek2]
    show Steps p.tables e below (T57.setTop (mkF m 69 #[.val (.int p0), .val (.int p1), .val (.int p2), .val (.int p3), .val (.ref b39), .val (.int (Int32.ofNat a)), .unset, .unset, .unset, .unset] [(.int (Int32.ofNat k2)), (.int (Int32.ofNat a))])) _
    refine XS.bipush X57.here hx rfl (own_hb hby at_69) ?_
    show Steps p.tables e below (T57.setTop (mkF m 71 #[.val (.int p0), .val (.int p1), .val (.int p2), .val (.int p3), .val (.ref b39), .val (.int (Int32.ofNat a)), .unset, .unset, .unset, .unset] [(.int (7 : Int32)), (.int (Int32.ofNat k2)), (.int (Int32.ofNat a))])) _
    refine XS.iload X57.here hx rfl (own_hb hby at_71) rfl ?_
    show Steps p.tables e below (T57.setTop (mkF m 73 #[.val (.int p0), .val (.int p1), .val (.int p2), .val (.int p3), .val (.ref b39), .val (.int (Int32.ofNat a)), .unset, .unset, .unset, .unset] [(.int (Int32.ofNat a)), (.int (7 : Int32)), (.int (Int32.ofNat k2)), (.int (Int32.ofNat a))])) _
    refine XS.isub X57.here hx rfl (own_hb hby at_73) rfl ?_
    show Steps p.tables e below (T57.setTop (mkF m 74 #[.val (.int p0), .val (.int p1), .val (.int p2), .val (.int p3), .val (.ref b39), .val (.int (Int32.ofNat a)), .unset, .unset, .unset, .unset] [(.int ((7 : Int32) - (Int32.ofNat a))), (.int (Int32.ofNat k2)), (.int (Int32.ofNat a))])) _
    rw [e7]
    show Steps p.tables e below (T57.setTop (mkF m 74 #[.val (.int p0), .val (.int p1), .val (.int p2), .val (.int p3), .val (.ref b39), .val (.int (Int32.ofNat a)), .unset, .unset, .unset, .unset] [(.int (Int32.ofNat (7 - a))), (.int (Int32.ofNat k2)), (.int (Int32.ofNat a))])) _
    refine XS.irem X57.here hx rfl (own_hb hby at_74) rfl (own_nzN (by omega) (by omega)) ?_
    show Steps p.tables e below (T57.setTop (mkF m 75 #[.val (.int p0), .val (.int p1), .val (.int p2), .val (.int p3), .val (.ref b39), .val (.int (Int32.ofNat a)), .unset, .unset, .unset, .unset] [(.int ((Int32.ofNat k2) - ((Int32.ofNat k2) / (Int32.ofNat (7 - a))) * (Int32.ofNat (7 - a)))), (.int (Int32.ofNat a))])) _
    rw [eb]
    show Steps p.tables e below (T57.setTop (mkF m 75 #[.val (.int p0), .val (.int p1), .val (.int p2), .val (.int p3), .val (.ref b39), .val (.int (Int32.ofNat a)), .unset, .unset, .unset, .unset] [(.int (Int32.ofNat (k2 % (7 - a)))), (.int (Int32.ofNat a))])) _
    refine XS.iadd X57.here hx rfl (own_hb hby at_75) rfl ?_
    show Steps p.tables e below (T57.setTop (mkF m 76 #[.val (.int p0), .val (.int p1), .val (.int p2), .val (.int p3), .val (.ref b39), .val (.int (Int32.ofNat a)), .unset, .unset, .unset, .unset] [(.int ((Int32.ofNat a) + (Int32.ofNat (k2 % (7 - a)))))])) _
    rw [eb2]
    show Steps p.tables e below (T57.setTop (mkF m 76 #[.val (.int p0), .val (.int p1), .val (.int p2), .val (.int p3), .val (.ref b39), .val (.int (Int32.ofNat a)), .unset, .unset, .unset, .unset] [(.int (Int32.ofNat b))])) _
    refine XS.istore X57.here hx rfl (own_hb hby at_76) rfl (l' := #[.val (.int p0), .val (.int p1), .val (.int p2), .val (.int p3), .val (.ref b39), .val (.int (Int32.ofNat a)), .val (.int (Int32.ofNat b)), .unset, .unset, .unset]) rfl ?_
    show Steps p.tables e below (T57.setTop (mkF m 78 #[.val (.int p0), .val (.int p1), .val (.int p2), .val (.int p3), .val (.ref b39), .val (.int (Int32.ofNat a)), .val (.int (Int32.ofNat b)), .unset, .unset, .unset] [])) _
    refine XS.bipush X57.here hx rfl (own_hb hby at_78) ?_
    exact kt
  obtain ⟨T61, h61, X61, e61, E61, A61, st61⟩ := own_newP X57 hx hZ (hw _ (List.mem_of_getElem? (i := 2) rfl)) e57 (g := (mkF m 80 #[.val (.int p0), .val (.int p1), .val (.int p2), .val (.int p3), .val (.ref b39), .val (.int (Int32.ofNat a)), .val (.int (Int32.ofNat b)), .unset, .unset, .unset] [(.int (7 : Int32))])) rfl (own_hb hby at_80) rfl (n := 7) (cap := 7) rfl (by decide) (by decide) (by decide) (by decide)
  obtain ⟨b61, g61⟩ : ∃ z, z = h57.size := ⟨_, rfl⟩
  rw [← g61] at A61 st61
  have gx61 : n0 ≤ b61 := Nat.le_trans z58 (Nat.le_of_eq g61.symm)
  have ne62 : b39 ≠ b61 := Nat.ne_of_lt (Nat.lt_of_lt_of_le f60.lt (Nat.le_of_eq g61.symm))
  refine own_Go.of (S' := (T61.setTop (mkF m 82 #[.val (.int p0), .val (.int p1), .val (.int p2), .val (.int p3), .val (.ref b39), .val (.int (Int32.ofNat a)), .val (.int (Int32.ofNat b)), .unset, .unset, .unset] [(.ref b61)]))) st61 ?_
  have f63 : own_Ar Z h61 b39 .byte 6 (own_I (own_by p0 p1)) := f60.ext E61
  have z64 : n0 ≤ h61.size := Nat.le_trans z58 E61.1
  have f65 : own_Ar Z h61 b61 .int 7 (own_I (fun _ => (0 : Int32))) := A61
  refine own_Go.of (S' := (T61.setTop (mkF m 85 #[.val (.int p0), .val (.int p1), .val (.int p2), .val (.int p3), .val (.ref b39), .val (.int (Int32.ofNat a)), .val (.int (Int32.ofNat b)), .unset, .unset, .unset] [(.int (1 : Int32)), (.int (0 : Int32)), (.ref b61), (.ref b61)]))) (fun t kt => ?_) ?_
  · show Steps p.tables e below (T61.setTop (mkF m 82 #[.val (.int p0), .val (.int p1), .val (.int p2), .val (.int p3), .val (.ref b39), .val (.int (Int32.ofNat a)), .val (.int (Int32.ofNat b)), .unset, .unset, .unset] [(.ref b61)])) _
    refine XS.dup X61.here hx rfl (own_hb hby at_82) rfl rfl ?_
    show Steps p.tables e below (T61.setTop (mkF m 83 #[.val (.int p0), .val (.int p1), .val (.int p2), .val (.int p3), .val (.ref b39), .val (.int (Int32.ofNat a)), .val (.int (Int32.ofNat b)), .unset, .unset, .unset] [(.ref b61), (.ref b61)])) _
    refine XS.iconst X61.here hx rfl (own_hb hby at_83) ?_
    show Steps p.tables e below (T61.setTop (mkF m 84 #[.val (.int p0), .val (.int p1), .val (.int p2), .val (.int p3), .val (.ref b39), .val (.int (Int32.ofNat a)), .val (.int (Int32.ofNat b)), .unset, .unset, .unset] [(.int (0 : Int32)), (.ref b61), (.ref b61)])) _
    refine XS.iconst X61.here hx rfl (own_hb hby at_84) ?_
    exact kt
  obtain ⟨cl66, Ar66, hin66, ub66⟩ := own_Ar.put (j := (0 : Int32)) (k := 0) f65 ⟨rfl, by decide⟩
  obtain ⟨T66, h66, X66, e66, W66, st66⟩ := stI X61 hx hZ e61 Ar66 (j := (0 : Int32)) hin66 (g := (mkF m 85 #[.val (.int p0), .val (.int p1), .val (.int p2), .val (.int p3), .val (.ref b39), .val (.int (Int32.ofNat a)), .val (.int (Int32.ofNat b)), .unset, .unset, .unset] [(.int (1 : Int32)), (.int (0 : Int32)), (.ref b61), (.ref b61)])) rfl rfl (own_hb hby at_85)
  refine own_Go.of (S' := (T66.setTop (mkF m 86 #[.val (.int p0), .val (.int p1), .val (.int p2), .val (.int p3), .val (.ref b39), .val (.int (Int32.ofNat a)), .val (.int (Int32.ofNat b)), .unset, .unset, .unset] [(.ref b61)]))) st66 ?_
  have f67 : own_Ar Z h66 b39 .byte 6 (own_I (own_by p0 p1)) := f63.other W66 ne62
  have z68 : n0 ≤ h66.size := Nat.le_trans z64 (Keep.of_wr W66).1
  have f69 : own_Ar Z h66 b61 .int 7 (own_I (own_set (fun _ => (0 : Int32)) 0 (1 : Int32))) := by rw [← own_upI]; exact ub66 rfl W66
  have N66 := Fr.snoc X66 N57 gx61
  refine own_Go.of (S' := (T66.setTop (mkF m 90 #[.val (.int p0), .val (.int p1), .val (.int p2), .val (.int p3), .val (.ref b39), .val (.int (Int32.ofNat a)), .val (.int (Int32.ofNat b)), .unset, .unset, .unset] [(.int (31 : Int32)), (.int (1 : Int32)), (.ref b61), (.ref b61)]))) (fun t kt => ?_) ?_
  · show Steps p.tables e below (T66.setTop (mkF m 86 #[.val (.int p0), .val (.int p1), .val (.int p2), .val (.int p3), .val (.ref b39), .val (.int (Int32.ofNat a)), .val (.int (Int32.ofNat b)), .unset, .unset, .unset] [(.ref b61)])) _
    refine XS.dup X66.here hx rfl (own_hb hby at_86) rfl rfl ?_
    show Steps p.tables e below (T66.setTop (mkF m 87 #[.val (.int p0), .val (.int p1), .val (.int p2), .val (.int p3), .val (.ref b39), .val (.int (Int32.ofNat a)), .val (.int (Int32.ofNat b)), .unset, .unset, .unset] [(.ref b61), (.ref b61)])) _
    refine XS.iconst X66.here hx rfl (own_hb hby at_87) ?_
    show Steps p.tables e below (T66.setTop (mkF m 88 #[.val (.int p0), .val (.int p1), .val (.int p2), .val (.int p3), .val (.ref b39), .val (.int (Int32.ofNat a)), .val (.int (Int32.ofNat b)), .unset, .unset, .unset] [(.int (1 : Int32)), (.ref b61), (.ref b61)])) _
    refine XS.bipush X66.here hx rfl (own_hb hby at_88) ?_
    exact kt
  obtain ⟨cl70, Ar70, hin70, ub70⟩ := own_Ar.put (j := (1 : Int32)) (k := 1) f69 ⟨rfl, by decide⟩
  obtain ⟨T70, h70, X70, e70, W70, st70⟩ := stI X66 hx hZ e66 Ar70 (j := (1 : Int32)) hin70 (g := (mkF m 90 #[.val (.int p0), .val (.int p1), .val (.int p2), .val (.int p3), .val (.ref b39), .val (.int (Int32.ofNat a)), .val (.int (Int32.ofNat b)), .unset, .unset, .unset] [(.int (31 : Int32)), (.int (1 : Int32)), (.ref b61), (.ref b61)])) rfl rfl (own_hb hby at_90)
  refine own_Go.of (S' := (T70.setTop (mkF m 91 #[.val (.int p0), .val (.int p1), .val (.int p2), .val (.int p3), .val (.ref b39), .val (.int (Int32.ofNat a)), .val (.int (Int32.ofNat b)), .unset, .unset, .unset] [(.ref b61)]))) st70 ?_
  have f71 : own_Ar Z h70 b39 .byte 6 (own_I (own_by p0 p1)) := f67.other W70 ne62
  have z72 : n0 ≤ h70.size := Nat.le_trans z68 (Keep.of_wr W70).1
  have f73 : own_Ar Z h70 b61 .int 7 (own_I (own_set (own_set (fun _ => (0 : Int32)) 0 (1 : Int32)) 1 (31 : Int32))) := by rw [← own_upI]; exact ub70 rfl W70
  have N70 := Fr.snoc X70 N66 gx61
  refine own_Go.of (S' := (T70.setTop (mkF m 96 #[.val (.int p0), .val (.int p1), .val (.int p2), .val (.int p3), .val (.ref b39), .val (.int (Int32.ofNat a)), .val (.int (Int32.ofNat b)), .unset, .unset, .unset] [(.int (961 : Int32)), (.int (2 : Int32)), (.ref b61), (.ref b61)]))) (fun t kt => ?_) ?_
  · show Steps p.tables e below (T70.setTop (mkF m 91 #[.val (.int p0), .val (.int p1), .val (.int p2), .val (.int p3), .val (.ref b39), .val (.int (Int32.ofNat a)), .val (.int (Int32.ofNat b)), .unset, .unset, .unset] [(.ref b61)])) _
    refine XS.dup X70.here hx rfl (own_hb hby at_91) rfl rfl ?_
    show Steps p.tables e below (T70.setTop (mkF m 92 #[.val (.int p0), .val (.int p1), .val (.int p2), .val (.int p3), .val (.ref b39), .val (.int (Int32.ofNat a)), .val (.int (Int32.ofNat b)), .unset, .unset, .unset] [(.ref b61), (.ref b61)])) _
    refine XS.iconst X70.here hx rfl (own_hb hby at_92) ?_
    show Steps p.tables e below (T70.setTop (mkF m 93 #[.val (.int p0), .val (.int p1), .val (.int p2), .val (.int p3), .val (.ref b39), .val (.int (Int32.ofNat a)), .val (.int (Int32.ofNat b)), .unset, .unset, .unset] [(.int (2 : Int32)), (.ref b61), (.ref b61)])) _
    refine XS.sipush X70.here hx rfl (own_hb hby at_93) ?_
    exact kt
  obtain ⟨cl74, Ar74, hin74, ub74⟩ := own_Ar.put (j := (2 : Int32)) (k := 2) f73 ⟨rfl, by decide⟩
  obtain ⟨T74, h74, X74, e74, W74, st74⟩ := stI X70 hx hZ e70 Ar74 (j := (2 : Int32)) hin74 (g := (mkF m 96 #[.val (.int p0), .val (.int p1), .val (.int p2), .val (.int p3), .val (.ref b39), .val (.int (Int32.ofNat a)), .val (.int (Int32.ofNat b)), .unset, .unset, .unset] [(.int (961 : Int32)), (.int (2 : Int32)), (.ref b61), (.ref b61)])) rfl rfl (own_hb hby at_96)
  refine own_Go.of (S' := (T74.setTop (mkF m 97 #[.val (.int p0), .val (.int p1), .val (.int p2), .val (.int p3), .val (.ref b39), .val (.int (Int32.ofNat a)), .val (.int (Int32.ofNat b)), .unset, .unset, .unset] [(.ref b61)]))) st74 ?_
  have f75 : own_Ar Z h74 b39 .byte 6 (own_I (own_by p0 p1)) := f71.other W74 ne62
  have z76 : n0 ≤ h74.size := Nat.le_trans z72 (Keep.of_wr W74).1
  have f77 : own_Ar Z h74 b61 .int 7 (own_I (own_set (own_set (own_set (fun _ => (0 : Int32)) 0 (1 : Int32)) 1 (31 : Int32)) 2 (961 : Int32))) := by rw [← own_upI]; exact ub74 rfl W74
  have N74 := Fr.snoc X74 N70 gx61
  refine own_Go.of (S' := (T74.setTop (mkF m 102 #[.val (.int p0), .val (.int p1), .val (.int p2), .val (.int p3), .val (.ref b39), .val (.int (Int32.ofNat a)), .val (.int (Int32.ofNat b)), .unset, .unset, .unset] [(.int (29791 : Int32)), (.int (3 : Int32)), (.ref b61), (.ref b61)]))) (fun t kt => ?_) ?_
  · show Steps p.tables e below (T74.setTop (mkF m 97 #[.val (.int p0), .val (.int p1), .val (.int p2), .val (.int p3), .val (.ref b39), .val (.int (Int32.ofNat a)), .val (.int (Int32.ofNat b)), .unset, .unset, .unset] [(.ref b61)])) _
    refine XS.dup X74.here hx rfl (own_hb hby at_97) rfl rfl ?_
    show Steps p.tables e below (T74.setTop (mkF m 98 #[.val (.int p0), .val (.int p1), .val (.int p2), .val (.int p3), .val (.ref b39), .val (.int (Int32.ofNat a)), .val (.int (Int32.ofNat b)), .unset, .unset, .unset] [(.ref b61), (.ref b61)])) _
    refine XS.iconst X74.here hx rfl (own_hb hby at_98) ?_
    show Steps p.tables e below (T74.setTop (mkF m 99 #[.val (.int p0), .val (.int p1), .val (.int p2), .val (.int p3), .val (.ref b39), .val (.int (Int32.ofNat a)), .val (.int (Int32.ofNat b)), .unset, .unset, .unset] [(.int (3 : Int32)), (.ref b61), (.ref b61)])) _
    refine XS.sipush X74.here hx rfl (own_hb hby at_99) ?_
    exact kt
  obtain ⟨cl78, Ar78, hin78, ub78⟩ := own_Ar.put (j := (3 : Int32)) (k := 3) f77 ⟨rfl, by decide⟩
  obtain ⟨T78, h78, X78, e78, W78, st78⟩ := stI X74 hx hZ e74 Ar78 (j := (3 : Int32)) hin78 (g := (mkF m 102 #[.val (.int p0), .val (.int p1), .val (.int p2), .val (.int p3), .val (.ref b39), .val (.int (Int32.ofNat a)), .val (.int (Int32.ofNat b)), .unset, .unset, .unset] [(.int (29791 : Int32)), (.int (3 : Int32)), (.ref b61), (.ref b61)])) rfl rfl (own_hb hby at_102)
  refine own_Go.of (S' := (T78.setTop (mkF m 103 #[.val (.int p0), .val (.int p1), .val (.int p2), .val (.int p3), .val (.ref b39), .val (.int (Int32.ofNat a)), .val (.int (Int32.ofNat b)), .unset, .unset, .unset] [(.ref b61)]))) st78 ?_
  have f79 : own_Ar Z h78 b39 .byte 6 (own_I (own_by p0 p1)) := f75.other W78 ne62
  have z80 : n0 ≤ h78.size := Nat.le_trans z76 (Keep.of_wr W78).1
  have f81 : own_Ar Z h78 b61 .int 7 (own_I (own_set (own_set (own_set (own_set (fun _ => (0 : Int32)) 0 (1 : Int32)) 1 (31 : Int32)) 2 (961 : Int32)) 3 (29791 : Int32))) := by rw [← own_upI]; exact ub78 rfl W78
  have N78 := Fr.snoc X78 N74 gx61
  refine own_Go.of (S' := (T78.setTop (mkF m 107 #[.val (.int p0), .val (.int p1), .val (.int p2), .val (.int p3), .val (.ref b39), .val (.int (Int32.ofNat a)), .val (.int (Int32.ofNat b)), .unset, .unset, .unset] [(.int (923521 : Int32)), (.int (4 : Int32)), (.ref b61), (.ref b61)]))) (fun t kt => ?_) ?_
  · show Steps p.tables e below (T78.setTop (mkF m 103 #[.val (.int p0), .val (.int p1), .val (.int p2), .val (.int p3), .val (.ref b39), .val (.int (Int32.ofNat a)), .val (.int (Int32.ofNat b)), .unset, .unset, .unset] [(.ref b61)])) _
    refine XS.dup X78.here hx rfl (own_hb hby at_103) rfl rfl ?_
    show Steps p.tables e below (T78.setTop (mkF m 104 #[.val (.int p0), .val (.int p1), .val (.int p2), .val (.int p3), .val (.ref b39), .val (.int (Int32.ofNat a)), .val (.int (Int32.ofNat b)), .unset, .unset, .unset] [(.ref b61), (.ref b61)])) _
    refine XS.iconst X78.here hx rfl (own_hb hby at_104) ?_
    show Steps p.tables e below (T78.setTop (mkF m 105 #[.val (.int p0), .val (.int p1), .val (.int p2), .val (.int p3), .val (.ref b39), .val (.int (Int32.ofNat a)), .val (.int (Int32.ofNat b)), .unset, .unset, .unset] [(.int (4 : Int32)), (.ref b61), (.ref b61)])) _
    refine X78.ldcInt hx hown (mvT hZ (hw _ (List.mem_of_getElem? (i := 3) rfl))) (g := (mkF m 105 #[.val (.int p0), .val (.int p1), .val (.int p2), .val (.int p3), .val (.ref b39), .val (.int (Int32.ofNat a)), .val (.int (Int32.ofNat b)), .unset, .unset, .unset] [(.int (4 : Int32)), (.ref b61), (.ref b61)])) rfl (own_hb hby at_105) _ ?_
    exact kt
  obtain ⟨cl82, Ar82, hin82, ub82⟩ := own_Ar.put (j := (4 : Int32)) (k := 4) f81 ⟨rfl, by decide⟩
  obtain ⟨T82, h82, X82, e82, W82, st82⟩ := stI X78 hx hZ e78 Ar82 (j := (4 : Int32)) hin82 (g := (mkF m 107 #[.val (.int p0), .val (.int p1), .val (.int p2), .val (.int p3), .val (.ref b39), .val (.int (Int32.ofNat a)), .val (.int (Int32.ofNat b)), .unset, .unset, .unset] [(.int (923521 : Int32)), (.int (4 : Int32)), (.ref b61), (.ref b61)])) rfl rfl (own_hb hby at_107)
  refine own_Go.of (S' := (T82.setTop (mkF m 108 #[.val (.int p0), .val (.int p1), .val (.int p2), .val (.int p3), .val (.ref b39), .val (.int (Int32.ofNat a)), .val (.int (Int32.ofNat b)), .unset, .unset, .unset] [(.ref b61)]))) st82 ?_
  have f83 : own_Ar Z h82 b39 .byte 6 (own_I (own_by p0 p1)) := f79.other W82 ne62
  have z84 : n0 ≤ h82.size := Nat.le_trans z80 (Keep.of_wr W82).1
  have f85 : own_Ar Z h82 b61 .int 7 (own_I (own_set (own_set (own_set (own_set (own_set (fun _ => (0 : Int32)) 0 (1 : Int32)) 1 (31 : Int32)) 2 (961 : Int32)) 3 (29791 : Int32)) 4 (923521 : Int32))) := by rw [← own_upI]; exact ub82 rfl W82
  have N82 := Fr.snoc X82 N78 gx61
  refine own_Go.of (S' := (T82.setTop (mkF m 112 #[.val (.int p0), .val (.int p1), .val (.int p2), .val (.int p3), .val (.ref b39), .val (.int (Int32.ofNat a)), .val (.int (Int32.ofNat b)), .unset, .unset, .unset] [(.int (28629151 : Int32)), (.int (5 : Int32)), (.ref b61), (.ref b61)]))) (fun t kt => ?_) ?_
  · show Steps p.tables e below (T82.setTop (mkF m 108 #[.val (.int p0), .val (.int p1), .val (.int p2), .val (.int p3), .val (.ref b39), .val (.int (Int32.ofNat a)), .val (.int (Int32.ofNat b)), .unset, .unset, .unset] [(.ref b61)])) _
    refine XS.dup X82.here hx rfl (own_hb hby at_108) rfl rfl ?_
    show Steps p.tables e below (T82.setTop (mkF m 109 #[.val (.int p0), .val (.int p1), .val (.int p2), .val (.int p3), .val (.ref b39), .val (.int (Int32.ofNat a)), .val (.int (Int32.ofNat b)), .unset, .unset, .unset] [(.ref b61), (.ref b61)])) _
    refine XS.iconst X82.here hx rfl (own_hb hby at_109) ?_
    show Steps p.tables e below (T82.setTop (mkF m 110 #[.val (.int p0), .val (.int p1), .val (.int p2), .val (.int p3), .val (.ref b39), .val (.int (Int32.ofNat a)), .val (.int (Int32.ofNat b)), .unset, .unset, .unset] [(.int (5 : Int32)), (.ref b61), (.ref b61)])) _
    refine X82.ldcInt hx hown (mvT hZ (hw _ (List.mem_of_getElem? (i := 4) rfl))) (g := (mkF m 110 #[.val (.int p0), .val (.int p1), .val (.int p2), .val (.int p3), .val (.ref b39), .val (.int (Int32.ofNat a)), .val (.int (Int32.ofNat b)), .unset, .unset, .unset] [(.int (5 : Int32)), (.ref b61), (.ref b61)])) rfl (own_hb hby at_110) _ ?_
    exact kt
  obtain ⟨cl86, Ar86, hin86, ub86⟩ := own_Ar.put (j := (5 : Int32)) (k := 5) f85 ⟨rfl, by decide⟩
  obtain ⟨T86, h86, X86, e86, W86, st86⟩ := stI X82 hx hZ e82 Ar86 (j := (5 : Int32)) hin86 (g := (mkF m 112 #[.val (.int p0), .val (.int p1), .val (.int p2), .val (.int p3), .val (.ref b39), .val (.int (Int32.ofNat a)), .val (.int (Int32.ofNat b)), .unset, .unset, .unset] [(.int (28629151 : Int32)), (.int (5 : Int32)), (.ref b61), (.ref b61)])) rfl rfl (own_hb hby at_112)
  refine own_Go.of (S' := (T86.setTop (mkF m 113 #[.val (.int p0), .val (.int p1), .val (.int p2), .val (.int p3), .val (.ref b39), .val (.int (Int32.ofNat a)), .val (.int (Int32.ofNat b)), .unset, .unset, .unset] [(.ref b61)]))) st86 ?_
  have f87 : own_Ar Z h86 b39 .byte 6 (own_I (own_by p0 p1)) := f83.other W86 ne62
  have z88 : n0 ≤ h86.size := Nat.le_trans z84 (Keep.of_wr W86).1
  have f89 : own_Ar Z h86 b61 .int 7 (own_I (own_set (own_set (own_set (own_set (own_set (own_set (fun _ => (0 : Int32)) 0 (1 : Int32)) 1 (31 : Int32)) 2 (961 : Int32)) 3 (29791 : Int32)) 4 (923521 : Int32)) 5 (28629151 : Int32))) := by rw [← own_upI]; exact ub86 rfl W86
  have N86 := Fr.snoc X86 N82 gx61
  refine own_Go.of (S' := (T86.setTop (mkF m 118 #[.val (.int p0), .val (.int p1), .val (.int p2), .val (.int p3), .val (.ref b39), .val (.int (Int32.ofNat a)), .val (.int (Int32.ofNat b)), .unset, .unset, .unset] [(.int (887503681 : Int32)), (.int (6 : Int32)), (.ref b61), (.ref b61)]))) (fun t kt => ?_) ?_
  · show Steps p.tables e below (T86.setTop (mkF m 113 #[.val (.int p0), .val (.int p1), .val (.int p2), .val (.int p3), .val (.ref b39), .val (.int (Int32.ofNat a)), .val (.int (Int32.ofNat b)), .unset, .unset, .unset] [(.ref b61)])) _
    refine XS.dup X86.here hx rfl (own_hb hby at_113) rfl rfl ?_
    show Steps p.tables e below (T86.setTop (mkF m 114 #[.val (.int p0), .val (.int p1), .val (.int p2), .val (.int p3), .val (.ref b39), .val (.int (Int32.ofNat a)), .val (.int (Int32.ofNat b)), .unset, .unset, .unset] [(.ref b61), (.ref b61)])) _
    refine XS.bipush X86.here hx rfl (own_hb hby at_114) ?_
    show Steps p.tables e below (T86.setTop (mkF m 116 #[.val (.int p0), .val (.int p1), .val (.int p2), .val (.int p3), .val (.ref b39), .val (.int (Int32.ofNat a)), .val (.int (Int32.ofNat b)), .unset, .unset, .unset] [(.int (6 : Int32)), (.ref b61), (.ref b61)])) _
    refine X86.ldcInt hx hown (mvT hZ (hw _ (List.mem_of_getElem? (i := 5) rfl))) (g := (mkF m 116 #[.val (.int p0), .val (.int p1), .val (.int p2), .val (.int p3), .val (.ref b39), .val (.int (Int32.ofNat a)), .val (.int (Int32.ofNat b)), .unset, .unset, .unset] [(.int (6 : Int32)), (.ref b61), (.ref b61)])) rfl (own_hb hby at_116) _ ?_
    exact kt
  obtain ⟨cl90, Ar90, hin90, ub90⟩ := own_Ar.put (j := (6 : Int32)) (k := 6) f89 ⟨rfl, by decide⟩
  obtain ⟨T90, h90, X90, e90, W90, st90⟩ := stI X86 hx hZ e86 Ar90 (j := (6 : Int32)) hin90 (g := (mkF m 118 #[.val (.int p0), .val (.int p1), .val (.int p2), .val (.int p3), .val (.ref b39), .val (.int (Int32.ofNat a)), .val (.int (Int32.ofNat b)), .unset, .unset, .unset] [(.int (887503681 : Int32)), (.int (6 : Int32)), (.ref b61), (.ref b61)])) rfl rfl (own_hb hby at_118)
  refine own_Go.of (S' := (T90.setTop (mkF m 119 #[.val (.int p0), .val (.int p1), .val (.int p2), .val (.int p3), .val (.ref b39), .val (.int (Int32.ofNat a)), .val (.int (Int32.ofNat b)), .unset, .unset, .unset] [(.ref b61)]))) st90 ?_
  have f91 : own_Ar Z h90 b39 .byte 6 (own_I (own_by p0 p1)) := f87.other W90 ne62
  have z92 : n0 ≤ h90.size := Nat.le_trans z88 (Keep.of_wr W90).1
  have f93 : own_Ar Z h90 b61 .int 7 (own_I (own_set (own_set (own_set (own_set (own_set (own_set (own_set (fun _ => (0 : Int32)) 0 (1 : Int32)) 1 (31 : Int32)) 2 (961 : Int32)) 3 (29791 : Int32)) 4 (923521 : Int32)) 5 (28629151 : Int32)) 6 (887503681 : Int32))) := by rw [← own_upI]; exact ub90 rfl W90
  have N90 := Fr.snoc X90 N86 gx61
  have f94 : own_Ar Z h90 b61 .int 7 (own_I own_pw) := f93.eqvI (fun i hi => rfl)
  refine own_Go.of (S' := (T90.setTop (mkF m 128 #[.val (.int p0), .val (.int p1), .val (.int p2), .val (.int p3), .val (.ref b39), .val (.int (Int32.ofNat a)), .val (.int (Int32.ofNat b)), .val (.ref b61), .unset, .unset] [(.int (Int32.ofNat (b - a))), (.ref b61)]))) (fun t kt => ?_) ?_
  · show Steps p.tables e below (T90.setTop (mkF m 119 #[.val (.int p0), .val (.int p1), .val (.int p2), .val (.int p3), .val (.ref b39), .val (.int (Int32.ofNat a)), .val (.int (Int32.ofNat b)), .unset, .unset, .unset] [(.ref b61)])) _
    refine XS.astore X90.here hx rfl (own_hb hby at_119) rfl rfl (l' := #[.val (.int p0), .val (.int p1), .val (.int p2), .val (.int p3), .val (.ref b39), .val (.int (Int32.ofNat a)), .val (.int (Int32.ofNat b)), .val (.ref b61), .unset, .unset]) rfl ?_
    show Steps p.tables e below (T90.setTop (mkF m 121 #[.val (.int p0), .val (.int p1), .val (.int p2), .val (.int p3), .val (.ref b39), .val (.int (Int32.ofNat a)), .val (.int (Int32.ofNat b)), .val (.ref b61), .unset, .unset] [])) _
    refine XS.aload X90.here hx rfl (own_hb hby at_121) rfl rfl ?_
    show Steps p.tables e below (T90.setTop (mkF m 123 #[.val (.int p0), .val (.int p1), .val (.int p2), .val (.int p3), .val (.ref b39), .val (.int (Int32.ofNat a)), .val (.int (Int32.ofNat b)), .val (.ref b61), .unset, .unset] [(.ref b61)])) _
    refine XS.iload X90.here hx rfl (own_hb hby at_123) rfl ?_
    show Steps p.tables e below (T90.setTop (mkF m 125 #[.val (.int p0), .val (.int p1), .val (.int p2), .val (.int p3), .val (.ref b39), .val (.int (Int32.ofNat a)), .val (.int (Int32.ofNat b)), .val (.ref b61), .unset, .unset] [(.int (Int32.ofNat b)), (.ref b61)])) _
    refine XS.iload X90.here hx rfl (own_hb hby at_125) rfl ?_
    show Steps p.tables e below (T90.setTop (mkF m 127 #[.val (.int p0), .val (.int p1), .val (.int p2), .val (.int p3), .val (.ref b39), .val (.int (Int32.ofNat a)), .val (.int (Int32.ofNat b)), .val (.ref b61), .unset, .unset] [(.int (Int32.ofNat a)), (.int (Int32.ofNat b)), (.ref b61)])) _
    refine XS.isub X90.here hx rfl (own_hb hby at_127) rfl ?_
    show Steps p.tables e below (T90.setTop (mkF m 128 #[.val (.int p0), .val (.int p1), .val (.int p2), .val (.int p3), .val (.ref b39), .val (.int (Int32.ofNat a)), .val (.int (Int32.ofNat b)), .val (.ref b61), .unset, .unset] [(.int ((Int32.ofNat b) - (Int32.ofNat a))), (.ref b61)])) _
    rw [own_subN hab]
    exact kt
  obtain ⟨cl95, Ar95, hin95, hat95⟩ := own_Ar.get (j := (Int32.ofNat (b - a))) (k := b - a) f94 ⟨rfl, by omega⟩
  refine own_Go.of (S' := (T90.setTop (mkF m 138 #[.val (.int p0), .val (.int p1), .val (.int p2), .val (.int p3), .val (.ref b39), .val (.int (Int32.ofNat a)), .val (.int (Int32.ofNat b)), .val (.ref b61), .unset, .unset] [(.int (Int32.ofNat b)), (.int (Int32.ofNat a)), (.int (0 : Int32)), (.ref b61), (.ref b39), (.int (own_pw (b - a)))]))) (fun t kt => ?_) ?_
  · show Steps p.tables e below (T90.setTop (mkF m 128 #[.val (.int p0), .val (.int p1), .val (.int p2), .val (.int p3), .val (.ref b39), .val (.int (Int32.ofNat a)), .val (.int (Int32.ofNat b)), .val (.ref b61), .unset, .unset] [(.int (Int32.ofNat (b - a))), (.ref b61)])) _
    refine X90.iaload hx (j := (Int32.ofNat (b - a))) (v := (.int (own_pw (b - a)))) (by rw [e90]; exact Ar95.1) (State.isArrayOf_alike hZ.alike Ar95.2.1) Ar95.2.2 hin95 hat95 (g := (mkF m 128 #[.val (.int p0), .val (.int p1), .val (.int p2), .val (.int p3), .val (.ref b39), .val (.int (Int32.ofNat a)), .val (.int (Int32.ofNat b)), .val (.ref b61), .unset, .unset] [(.int (Int32.ofNat (b - a))), (.ref b61)])) rfl rfl (own_hb hby at_128) _ ?_
    show Steps p.tables e below (T90.setTop (mkF m 129 #[.val (.int p0), .val (.int p1), .val (.int p2), .val (.int p3), .val (.ref b39), .val (.int (Int32.ofNat a)), .val (.int (Int32.ofNat b)), .val (.ref b61), .unset, .unset] [(.int (own_pw (b - a)))])) _
    refine XS.aload X90.here hx rfl (own_hb hby at_129) rfl rfl ?_
    show Steps p.tables e below (T90.setTop (mkF m 131 #[.val (.int p0), .val (.int p1), .val (.int p2), .val (.int p3), .val (.ref b39), .val (.int (Int32.ofNat a)), .val (.int (Int32.ofNat b)), .val (.ref b61), .unset, .unset] [(.ref b39), (.int (own_pw (b - a)))])) _
    refine XS.aload X90.here hx rfl (own_hb hby at_131) rfl rfl ?_
    show Steps p.tables e below (T90.setTop (mkF m 133 #[.val (.int p0), .val (.int p1), .val (.int p2), .val (.int p3), .val (.ref b39), .val (.int (Int32.ofNat a)), .val (.int (Int32.ofNat b)), .val (.ref b61), .unset, .unset] [(.ref b61), (.ref b39), (.int (own_pw (b - a)))])) _
    refine XS.iconst X90.here hx rfl (own_hb hby at_133) ?_
    show Steps p.tables e below (T90.setTop (mkF m 134 #[.val (.int p0), .val (.int p1), .val (.int p2), .val (.int p3), .val (.ref b39), .val (.int (Int32.ofNat a)), .val (.int (Int32.ofNat b)), .val (.ref b61), .unset, .unset] [(.int (0 : Int32)), (.ref b61), (.ref b39), (.int (own_pw (b - a)))])) _
    refine XS.iload X90.here hx rfl (own_hb hby at_134) rfl ?_
    show Steps p.tables e below (T90.setTop (mkF m 136 #[.val (.int p0), .val (.int p1), .val (.int p2), .val (.int p3), .val (.ref b39), .val (.int (Int32.ofNat a)), .val (.int (Int32.ofNat b)), .val (.ref b61), .unset, .unset] [(.int (Int32.ofNat a)), (.int (0 : Int32)), (.ref b61), (.ref b39), (.int (own_pw (b - a)))])) _
    refine XS.iload X90.here hx rfl (own_hb hby at_136) rfl ?_
    exact kt
  obtain ⟨_, _, ⟨T96, L96, k96, n96⟩, -, X96, ⟨Lc96, hQ96, l96, y96, z96⟩, st96⟩ := Jvm.LawKit.callS X90 hx (y := (⟨"com/example/gridwire/gridwire/store/ByteSpanArraysHashCodePinLaw", "term", "([B[IIII)I"⟩ : MethodName)) hown (mvT hZ (hw _ (List.mem_of_getElem? (i := 6) rfl))) (mvT hZ (hw _ (List.mem_of_getElem? (i := 7) rfl))) (mvT hZ (hw _ (List.mem_of_getElem? (i := 8) rfl))) (mvT hZ (hw _ (List.mem_of_getElem? (i := 9) rfl))) (by decide) (backOf (W := 1) (rm1 l Z a0 hw [] b39 b61 0 a b (own_by p0 p1) h90 n0 z92 f91 f94 (by decide) hab hb) hZ (hw _ (List.mem_of_getElem? (i := 9) rfl)) (hw _ (List.mem_of_getElem? (i := 8) rfl)) (by decide) (by decide)) (g := (mkF m 138 #[.val (.int p0), .val (.int p1), .val (.int p2), .val (.int p3), .val (.ref b39), .val (.int (Int32.ofNat a)), .val (.int (Int32.ofNat b)), .val (.ref b61), .unset, .unset] [(.int (Int32.ofNat b)), (.int (Int32.ofNat a)), (.int (0 : Int32)), (.ref b61), (.ref b39), (.int (own_pw (b - a)))])) rfl (by rw [hml]; rfl) (argsL := [(.ref b39), (.ref b61), (.int (0 : Int32)), (.int (Int32.ofNat a)), (.int (Int32.ofNat b))]) (rest := [(.int (own_pw (b - a)))]) (lenOf pd_3 rfl) rfl (by show 2 * 0 + _ ≤ _; exact Nat.le_of_eq rfl) (own_hb hby at_138) (fun _ _ => ⟨rfl, e90, (by decide : 2 + 0 ≤ _), (by decide : 13 + 0 ≤ _)⟩)
  dsimp only [Pt.U, Pt.locs, Pt.cells, Pt.slots] at X96 l96 y96 z96 st96 hQ96
  subst l96 y96 z96
  obtain ⟨rfl, N96q, hh96⟩ := hQ96
  have N96 := Fr.app N90 N96q
  refine own_Go.of (S' := (T96.setTop (mkF m 141 #[.val (.int p0), .val (.int p1), .val (.int p2), .val (.int p3), .val (.ref b39), .val (.int (Int32.ofNat a)), .val (.int (Int32.ofNat b)), .val (.ref b61), .unset, .unset] [(.int (own_t (own_by p0 p1) 0 a b)), (.int (own_pw (b - a)))]))) (fun t kt => st96 t kt) ?_
  refine own_Go.of (S' := (T96.setTop (mkF m 151 #[.val (.int p0), .val (.int p1), .val (.int p2), .val (.int p3), .val (.ref b39), .val (.int (Int32.ofNat a)), .val (.int (Int32.ofNat b)), .val (.ref b61), .unset, .unset] [(.int (Int32.ofNat b)), (.int (Int32.ofNat a)), (.int (1 : Int32)), (.ref b61), (.ref b39), (.int ((own_pw (b - a)) + (own_t (own_by p0 p1) 0 a b)))]))) (fun t kt => ?_) ?_
  · show Steps p.tables e below (T96.setTop (mkF m 141 #[.val (.int p0), .val (.int p1), .val (.int p2), .val (.int p3), .val (.ref b39), .val (.int (Int32.ofNat a)), .val (.int (Int32.ofNat b)), .val (.ref b61), .unset, .unset] [(.int (own_t (own_by p0 p1) 0 a b)), (.int (own_pw (b - a)))])) _
    refine XS.iadd X96.here hx rfl (own_hb hby at_141) rfl ?_
    show Steps p.tables e below (T96.setTop (mkF m 142 #[.val (.int p0), .val (.int p1), .val (.int p2), .val (.int p3), .val (.ref b39), .val (.int (Int32.ofNat a)), .val (.int (Int32.ofNat b)), .val (.ref b61), .unset, .unset] [(.int ((own_pw (b - a)) + (own_t (own_by p0 p1) 0 a b)))])) _
    refine XS.aload X96.here hx rfl (own_hb hby at_142) rfl rfl ?_
    show Steps p.tables e below (T96.setTop (mkF m 144 #[.val (.int p0), .val (.int p1), .val (.int p2), .val (.int p3), .val (.ref b39), .val (.int (Int32.ofNat a)), .val (.int (Int32.ofNat b)), .val (.ref b61), .unset, .unset] [(.ref b39), (.int ((own_pw (b - a)) + (own_t (own_by p0 p1) 0 a b)))])) _
    refine XS.aload X96.here hx rfl (own_hb hby at_144) rfl rfl ?_
    show Steps p.tables e below (T96.setTop (mkF m 146 #[.val (.int p0), .val (.int p1), .val (.int p2), .val (.int p3), .val (.ref b39), .val (.int (Int32.ofNat a)), .val (.int (Int32.ofNat b)), .val (.ref b61), .unset, .unset] [(.ref b61), (.ref b39), (.int ((own_pw (b - a)) + (own_t (own_by p0 p1) 0 a b)))])) _
    refine XS.iconst X96.here hx rfl (own_hb hby at_146) ?_
    show Steps p.tables e below (T96.setTop (mkF m 147 #[.val (.int p0), .val (.int p1), .val (.int p2), .val (.int p3), .val (.ref b39), .val (.int (Int32.ofNat a)), .val (.int (Int32.ofNat b)), .val (.ref b61), .unset, .unset] [(.int (1 : Int32)), (.ref b61), (.ref b39), (.int ((own_pw (b - a)) + (own_t (own_by p0 p1) 0 a b)))])) _
    refine XS.iload X96.here hx rfl (own_hb hby at_147) rfl ?_
    show Steps p.tables e below (T96.setTop (mkF m 149 #[.val (.int p0), .val (.int p1), .val (.int p2), .val (.int p3), .val (.ref b39), .val (.int (Int32.ofNat a)), .val (.int (Int32.ofNat b)), .val (.ref b61), .unset, .unset] [(.int (Int32.ofNat a)), (.int (1 : Int32)), (.ref b61), (.ref b39), (.int ((own_pw (b - a)) + (own_t (own_by p0 p1) 0 a b)))])) _
    refine XS.iload X96.here hx rfl (own_hb hby at_149) rfl ?_
    exact kt
  obtain ⟨_, _, ⟨T97, L97, k97, n97⟩, -, X97, ⟨Lc97, hQ97, l97, y97, z97⟩, st97⟩ := Jvm.LawKit.callS X96 hx (y := (⟨"com/example/gridwire/gridwire/store/ByteSpanArraysHashCodePinLaw", "term", "([B[IIII)I"⟩ : MethodName)) hown (mvT hZ (hw _ (List.mem_of_getElem? (i := 6) rfl))) (mvT hZ (hw _ (List.mem_of_getElem? (i := 7) rfl))) (mvT hZ (hw _ (List.mem_of_getElem? (i := 8) rfl))) (mvT hZ (hw _ (List.mem_of_getElem? (i := 9) rfl))) (by decide) (backOf (W := 1) (rm1 l Z a0 hw [] b39 b61 1 a b (own_by p0 p1) h90 n0 z92 f91 f94 (by decide) hab hb) hZ (hw _ (List.mem_of_getElem? (i := 9) rfl)) (hw _ (List.mem_of_getElem? (i := 8) rfl)) (by decide) (by decide)) (g := (mkF m 151 #[.val (.int p0), .val (.int p1), .val (.int p2), .val (.int p3), .val (.ref b39), .val (.int (Int32.ofNat a)), .val (.int (Int32.ofNat b)), .val (.ref b61), .unset, .unset] [(.int (Int32.ofNat b)), (.int (Int32.ofNat a)), (.int (1 : Int32)), (.ref b61), (.ref b39), (.int ((own_pw (b - a)) + (own_t (own_by p0 p1) 0 a b)))])) rfl (by rw [hml]; rfl) (argsL := [(.ref b39), (.ref b61), (.int (1 : Int32)), (.int (Int32.ofNat a)), (.int (Int32.ofNat b))]) (rest := [(.int ((own_pw (b - a)) + (own_t (own_by p0 p1) 0 a b)))]) (lenOf pd_3 rfl) rfl (by show 2 * 0 + _ ≤ _; exact Nat.le_of_eq rfl) (own_hb hby at_151) (fun _ _ => ⟨rfl, hh96, (by decide : 2 + 0 ≤ _), (by decide : 13 + 0 ≤ _)⟩)
  dsimp only [Pt.U, Pt.locs, Pt.cells, Pt.slots] at X97 l97 y97 z97 st97 hQ97
  subst l97 y97 z97
  obtain ⟨rfl, N97q, hh97⟩ := hQ97
  have N97 := Fr.app N96 N97q
  refine own_Go.of (S' := (T97.setTop (mkF m 154 #[.val (.int p0), .val (.int p1), .val (.int p2), .val (.int p3), .val (.ref b39), .val (.int (Int32.ofNat a)), .val (.int (Int32.ofNat b)), .val (.ref b61), .unset, .unset] [(.int (own_t (own_by p0 p1) 1 a b)), (.int ((own_pw (b - a)) + (own_t (own_by p0 p1) 0 a b)))]))) (fun t kt => st97 t kt) ?_
  refine own_Go.of (S' := (T97.setTop (mkF m 164 #[.val (.int p0), .val (.int p1), .val (.int p2), .val (.int p3), .val (.ref b39), .val (.int (Int32.ofNat a)), .val (.int (Int32.ofNat b)), .val (.ref b61), .unset, .unset] [(.int (Int32.ofNat b)), (.int (Int32.ofNat a)), (.int (2 : Int32)), (.ref b61), (.ref b39), (.int (((own_pw (b - a)) + (own_t (own_by p0 p1) 0 a b)) + (own_t (own_by p0 p1) 1 a b)))]))) (fun t kt => ?_) ?_
  · show Steps p.tables e below (T97.setTop (mkF m 154 #[.val (.int p0), .val (.int p1), .val (.int p2), .val (.int p3), .val (.ref b39), .val (.int (Int32.ofNat a)), .val (.int (Int32.ofNat b)), .val (.ref b61), .unset, .unset] [(.int (own_t (own_by p0 p1) 1 a b)), (.int ((own_pw (b - a)) + (own_t (own_by p0 p1) 0 a b)))])) _
    refine XS.iadd X97.here hx rfl (own_hb hby at_154) rfl ?_
    show Steps p.tables e below (T97.setTop (mkF m 155 #[.val (.int p0), .val (.int p1), .val (.int p2), .val (.int p3), .val (.ref b39), .val (.int (Int32.ofNat a)), .val (.int (Int32.ofNat b)), .val (.ref b61), .unset, .unset] [(.int (((own_pw (b - a)) + (own_t (own_by p0 p1) 0 a b)) + (own_t (own_by p0 p1) 1 a b)))])) _
    refine XS.aload X97.here hx rfl (own_hb hby at_155) rfl rfl ?_
    show Steps p.tables e below (T97.setTop (mkF m 157 #[.val (.int p0), .val (.int p1), .val (.int p2), .val (.int p3), .val (.ref b39), .val (.int (Int32.ofNat a)), .val (.int (Int32.ofNat b)), .val (.ref b61), .unset, .unset] [(.ref b39), (.int (((own_pw (b - a)) + (own_t (own_by p0 p1) 0 a b)) + (own_t (own_by p0 p1) 1 a b)))])) _
    refine XS.aload X97.here hx rfl (own_hb hby at_157) rfl rfl ?_
    show Steps p.tables e below (T97.setTop (mkF m 159 #[.val (.int p0), .val (.int p1), .val (.int p2), .val (.int p3), .val (.ref b39), .val (.int (Int32.ofNat a)), .val (.int (Int32.ofNat b)), .val (.ref b61), .unset, .unset] [(.ref b61), (.ref b39), (.int (((own_pw (b - a)) + (own_t (own_by p0 p1) 0 a b)) + (own_t (own_by p0 p1) 1 a b)))])) _
    refine XS.iconst X97.here hx rfl (own_hb hby at_159) ?_
    show Steps p.tables e below (T97.setTop (mkF m 160 #[.val (.int p0), .val (.int p1), .val (.int p2), .val (.int p3), .val (.ref b39), .val (.int (Int32.ofNat a)), .val (.int (Int32.ofNat b)), .val (.ref b61), .unset, .unset] [(.int (2 : Int32)), (.ref b61), (.ref b39), (.int (((own_pw (b - a)) + (own_t (own_by p0 p1) 0 a b)) + (own_t (own_by p0 p1) 1 a b)))])) _
    refine XS.iload X97.here hx rfl (own_hb hby at_160) rfl ?_
    show Steps p.tables e below (T97.setTop (mkF m 162 #[.val (.int p0), .val (.int p1), .val (.int p2), .val (.int p3), .val (.ref b39), .val (.int (Int32.ofNat a)), .val (.int (Int32.ofNat b)), .val (.ref b61), .unset, .unset] [(.int (Int32.ofNat a)), (.int (2 : Int32)), (.ref b61), (.ref b39), (.int (((own_pw (b - a)) + (own_t (own_by p0 p1) 0 a b)) + (own_t (own_by p0 p1) 1 a b)))])) _
    refine XS.iload X97.here hx rfl (own_hb hby at_162) rfl ?_
    exact kt
  obtain ⟨_, _, ⟨T98, L98, k98, n98⟩, -, X98, ⟨Lc98, hQ98, l98, y98, z98⟩, st98⟩ := Jvm.LawKit.callS X97 hx (y := (⟨"com/example/gridwire/gridwire/store/ByteSpanArraysHashCodePinLaw", "term", "([B[IIII)I"⟩ : MethodName)) hown (mvT hZ (hw _ (List.mem_of_getElem? (i := 6) rfl))) (mvT hZ (hw _ (List.mem_of_getElem? (i := 7) rfl))) (mvT hZ (hw _ (List.mem_of_getElem? (i := 8) rfl))) (mvT hZ (hw _ (List.mem_of_getElem? (i := 9) rfl))) (by decide) (backOf (W := 1) (rm1 l Z a0 hw [] b39 b61 2 a b (own_by p0 p1) h90 n0 z92 f91 f94 (by decide) hab hb) hZ (hw _ (List.mem_of_getElem? (i := 9) rfl)) (hw _ (List.mem_of_getElem? (i := 8) rfl)) (by decide) (by decide)) (g := (mkF m 164 #[.val (.int p0), .val (.int p1), .val (.int p2), .val (.int p3), .val (.ref b39), .val (.int (Int32.ofNat a)), .val (.int (Int32.ofNat b)), .val (.ref b61), .unset, .unset] [(.int (Int32.ofNat b)), (.int (Int32.ofNat a)), (.int (2 : Int32)), (.ref b61), (.ref b39), (.int (((own_pw (b - a)) + (own_t (own_by p0 p1) 0 a b)) + (own_t (own_by p0 p1) 1 a b)))])) rfl (by rw [hml]; rfl) (argsL := [(.ref b39), (.ref b61), (.int (2 : Int32)), (.int (Int32.ofNat a)), (.int (Int32.ofNat b))]) (rest := [(.int (((own_pw (b - a)) + (own_t (own_by p0 p1) 0 a b)) + (own_t (own_by p0 p1) 1 a b)))]) (lenOf pd_3 rfl) rfl (by show 2 * 0 + _ ≤ _; exact Nat.le_of_eq rfl) (own_hb hby at_164) (fun _ _ => ⟨rfl, hh97, (by decide : 2 + 0 ≤ _), (by decide : 13 + 0 ≤ _)⟩)
  dsimp only [Pt.U, Pt.locs, Pt.cells, Pt.slots] at X98 l98 y98 z98 st98 hQ98
  subst l98 y98 z98
  obtain ⟨rfl, N98q, hh98⟩ := hQ98
  have N98 := Fr.app N97 N98q
  refine own_Go.of (S' := (T98.setTop (mkF m 167 #[.val (.int p0), .val (.int p1), .val (.int p2), .val (.int p3), .val (.ref b39), .val (.int (Int32.ofNat a)), .val (.int (Int32.ofNat b)), .val (.ref b61), .unset, .unset] [(.int (own_t (own_by p0 p1) 2 a b)), (.int (((own_pw (b - a)) + (own_t (own_by p0 p1) 0 a b)) + (own_t (own_by p0 p1) 1 a b)))]))) (fun t kt => st98 t kt) ?_
  refine own_Go.of (S' := (T98.setTop (mkF m 177 #[.val (.int p0), .val (.int p1), .val (.int p2), .val (.int p3), .val (.ref b39), .val (.int (Int32.ofNat a)), .val (.int (Int32.ofNat b)), .val (.ref b61), .unset, .unset] [(.int (Int32.ofNat b)), (.int (Int32.ofNat a)), (.int (3 : Int32)), (.ref b61), (.ref b39), (.int ((((own_pw (b - a)) + (own_t (own_by p0 p1) 0 a b)) + (own_t (own_by p0 p1) 1 a b)) + (own_t (own_by p0 p1) 2 a b)))]))) (fun t kt => ?_) ?_
  · show Steps p.tables e below (T98.setTop (mkF m 167 #[.val (.int p0), .val (.int p1), .val (.int p2), .val (.int p3), .val (.ref b39), .val (.int (Int32.ofNat a)), .val (.int (Int32.ofNat b)), .val (.ref b61), .unset, .unset] [(.int (own_t (own_by p0 p1) 2 a b)), (.int (((own_pw (b - a)) + (own_t (own_by p0 p1) 0 a b)) + (own_t (own_by p0 p1) 1 a b)))])) _
    refine XS.iadd X98.here hx rfl (own_hb hby at_167) rfl ?_
    show Steps p.tables e below (T98.setTop (mkF m 168 #[.val (.int p0), .val (.int p1), .val (.int p2), .val (.int p3), .val (.ref b39), .val (.int (Int32.ofNat a)), .val (.int (Int32.ofNat b)), .val (.ref b61), .unset, .unset] [(.int ((((own_pw (b - a)) + (own_t (own_by p0 p1) 0 a b)) + (own_t (own_by p0 p1) 1 a b)) + (own_t (own_by p0 p1) 2 a b)))])) _
    refine XS.aload X98.here hx rfl (own_hb hby at_168) rfl rfl ?_
    show Steps p.tables e below (T98.setTop (mkF m 170 #[.val (.int p0), .val (.int p1), .val (.int p2), .val (.int p3), .val (.ref b39), .val (.int (Int32.ofNat a)), .val (.int (Int32.ofNat b)), .val (.ref b61), .unset, .unset] [(.ref b39), (.int ((((own_pw (b - a)) + (own_t (own_by p0 p1) 0 a b)) + (own_t (own_by p0 p1) 1 a b)) + (own_t (own_by p0 p1) 2 a b)))])) _
    refine XS.aload X98.here hx rfl (own_hb hby at_170) rfl rfl ?_
    show Steps p.tables e below (T98.setTop (mkF m 172 #[.val (.int p0), .val (.int p1), .val (.int p2), .val (.int p3), .val (.ref b39), .val (.int (Int32.ofNat a)), .val (.int (Int32.ofNat b)), .val (.ref b61), .unset, .unset] [(.ref b61), (.ref b39), (.int ((((own_pw (b - a)) + (own_t (own_by p0 p1) 0 a b)) + (own_t (own_by p0 p1) 1 a b)) + (own_t (own_by p0 p1) 2 a b)))])) _
    refine XS.iconst X98.here hx rfl (own_hb hby at_172) ?_
    show Steps p.tables e below (T98.setTop (mkF m 173 #[.val (.int p0), .val (.int p1), .val (.int p2), .val (.int p3), .val (.ref b39), .val (.int (Int32.ofNat a)), .val (.int (Int32.ofNat b)), .val (.ref b61), .unset, .unset] [(.int (3 : Int32)), (.ref b61), (.ref b39), (.int ((((own_pw (b - a)) + (own_t (own_by p0 p1) 0 a b)) + (own_t (own_by p0 p1) 1 a b)) + (own_t (own_by p0 p1) 2 a b)))])) _
    refine XS.iload X98.here hx rfl (own_hb hby at_173) rfl ?_
    show Steps p.tables e below (T98.setTop (mkF m 175 #[.val (.int p0), .val (.int p1), .val (.int p2), .val (.int p3), .val (.ref b39), .val (.int (Int32.ofNat a)), .val (.int (Int32.ofNat b)), .val (.ref b61), .unset, .unset] [(.int (Int32.ofNat a)), (.int (3 : Int32)), (.ref b61), (.ref b39), (.int ((((own_pw (b - a)) + (own_t (own_by p0 p1) 0 a b)) + (own_t (own_by p0 p1) 1 a b)) + (own_t (own_by p0 p1) 2 a b)))])) _
    refine XS.iload X98.here hx rfl (own_hb hby at_175) rfl ?_
    exact kt
  obtain ⟨_, _, ⟨T99, L99, k99, n99⟩, -, X99, ⟨Lc99, hQ99, l99, y99, z99⟩, st99⟩ := Jvm.LawKit.callS X98 hx (y := (⟨"com/example/gridwire/gridwire/store/ByteSpanArraysHashCodePinLaw", "term", "([B[IIII)I"⟩ : MethodName)) hown (mvT hZ (hw _ (List.mem_of_getElem? (i := 6) rfl))) (mvT hZ (hw _ (List.mem_of_getElem? (i := 7) rfl))) (mvT hZ (hw _ (List.mem_of_getElem? (i := 8) rfl))) (mvT hZ (hw _ (List.mem_of_getElem? (i := 9) rfl))) (by decide) (backOf (W := 1) (rm1 l Z a0 hw [] b39 b61 3 a b (own_by p0 p1) h90 n0 z92 f91 f94 (by decide) hab hb) hZ (hw _ (List.mem_of_getElem? (i := 9) rfl)) (hw _ (List.mem_of_getElem? (i := 8) rfl)) (by decide) (by decide)) (g := (mkF m 177 #[.val (.int p0), .val (.int p1), .val (.int p2), .val (.int p3), .val (.ref b39), .val (.int (Int32.ofNat a)), .val (.int (Int32.ofNat b)), .val (.ref b61), .unset, .unset] [(.int (Int32.ofNat b)), (.int (Int32.ofNat a)), (.int (3 : Int32)), (.ref b61), (.ref b39), (.int ((((own_pw (b - a)) + (own_t (own_by p0 p1) 0 a b)) + (own_t (own_by p0 p1) 1 a b)) + (own_t (own_by p0 p1) 2 a b)))])) rfl (by rw [hml]; rfl) (argsL := [(.ref b39), (.ref b61), (.int (3 : Int32)), (.int (Int32.ofNat a)), (.int (Int32.ofNat b))]) (rest := [(.int ((((own_pw (b - a)) + (own_t (own_by p0 p1) 0 a b)) + (own_t (own_by p0 p1) 1 a b)) + (own_t (own_by p0 p1) 2 a b)))]) (lenOf pd_3 rfl) rfl (by show 2 * 0 + _ ≤ _; exact Nat.le_of_eq rfl) (own_hb hby at_177) (fun _ _ => ⟨rfl, hh98, (by decide : 2 + 0 ≤ _), (by decide : 13 + 0 ≤ _)⟩)
  dsimp only [Pt.U, Pt.locs, Pt.cells, Pt.slots] at X99 l99 y99 z99 st99 hQ99
  subst l99 y99 z99
  obtain ⟨rfl, N99q, hh99⟩ := hQ99
  have N99 := Fr.app N98 N99q
  refine own_Go.of (S' := (T99.setTop (mkF m 180 #[.val (.int p0), .val (.int p1), .val (.int p2), .val (.int p3), .val (.ref b39), .val (.int (Int32.ofNat a)), .val (.int (Int32.ofNat b)), .val (.ref b61), .unset, .unset] [(.int (own_t (own_by p0 p1) 3 a b)), (.int ((((own_pw (b - a)) + (own_t (own_by p0 p1) 0 a b)) + (own_t (own_by p0 p1) 1 a b)) + (own_t (own_by p0 p1) 2 a b)))]))) (fun t kt => st99 t kt) ?_
  refine own_Go.of (S' := (T99.setTop (mkF m 190 #[.val (.int p0), .val (.int p1), .val (.int p2), .val (.int p3), .val (.ref b39), .val (.int (Int32.ofNat a)), .val (.int (Int32.ofNat b)), .val (.ref b61), .unset, .unset] [(.int (Int32.ofNat b)), (.int (Int32.ofNat a)), (.int (4 : Int32)), (.ref b61), (.ref b39), (.int (((((own_pw (b - a)) + (own_t (own_by p0 p1) 0 a b)) + (own_t (own_by p0 p1) 1 a b)) + (own_t (own_by p0 p1) 2 a b)) + (own_t (own_by p0 p1) 3 a b)))]))) (fun t kt => ?_) ?_
  · show Steps p.tables e below (T99.setTop (mkF m 180 #[.val (.int p0), .val (.int p1), .val (.int p2), .val (.int p3), .val (.ref b39), .val (.int (Int32.ofNat a)), .val (.int (Int32.ofNat b)), .val (.ref b61), .unset, .unset] [(.int (own_t (own_by p0 p1) 3 a b)), (.int ((((own_pw (b - a)) + (own_t (own_by p0 p1) 0 a b)) + (own_t (own_by p0 p1) 1 a b)) + (own_t (own_by p0 p1) 2 a b)))])) _
    refine XS.iadd X99.here hx rfl (own_hb hby at_180) rfl ?_
    show Steps p.tables e below (T99.setTop (mkF m 181 #[.val (.int p0), .val (.int p1), .val (.int p2), .val (.int p3), .val (.ref b39), .val (.int (Int32.ofNat a)), .val (.int (Int32.ofNat b)), .val (.ref b61), .unset, .unset] [(.int (((((own_pw (b - a)) + (own_t (own_by p0 p1) 0 a b)) + (own_t (own_by p0 p1) 1 a b)) + (own_t (own_by p0 p1) 2 a b)) + (own_t (own_by p0 p1) 3 a b)))])) _
    refine XS.aload X99.here hx rfl (own_hb hby at_181) rfl rfl ?_
    show Steps p.tables e below (T99.setTop (mkF m 183 #[.val (.int p0), .val (.int p1), .val (.int p2), .val (.int p3), .val (.ref b39), .val (.int (Int32.ofNat a)), .val (.int (Int32.ofNat b)), .val (.ref b61), .unset, .unset] [(.ref b39), (.int (((((own_pw (b - a)) + (own_t (own_by p0 p1) 0 a b)) + (own_t (own_by p0 p1) 1 a b)) + (own_t (own_by p0 p1) 2 a b)) + (own_t (own_by p0 p1) 3 a b)))])) _
    refine XS.aload X99.here hx rfl (own_hb hby at_183) rfl rfl ?_
    show Steps p.tables e below (T99.setTop (mkF m 185 #[.val (.int p0), .val (.int p1), .val (.int p2), .val (.int p3), .val (.ref b39), .val (.int (Int32.ofNat a)), .val (.int (Int32.ofNat b)), .val (.ref b61), .unset, .unset] [(.ref b61), (.ref b39), (.int (((((own_pw (b - a)) + (own_t (own_by p0 p1) 0 a b)) + (own_t (own_by p0 p1) 1 a b)) + (own_t (own_by p0 p1) 2 a b)) + (own_t (own_by p0 p1) 3 a b)))])) _
    refine XS.iconst X99.here hx rfl (own_hb hby at_185) ?_
    show Steps p.tables e below (T99.setTop (mkF m 186 #[.val (.int p0), .val (.int p1), .val (.int p2), .val (.int p3), .val (.ref b39), .val (.int (Int32.ofNat a)), .val (.int (Int32.ofNat b)), .val (.ref b61), .unset, .unset] [(.int (4 : Int32)), (.ref b61), (.ref b39), (.int (((((own_pw (b - a)) + (own_t (own_by p0 p1) 0 a b)) + (own_t (own_by p0 p1) 1 a b)) + (own_t (own_by p0 p1) 2 a b)) + (own_t (own_by p0 p1) 3 a b)))])) _
    refine XS.iload X99.here hx rfl (own_hb hby at_186) rfl ?_
    show Steps p.tables e below (T99.setTop (mkF m 188 #[.val (.int p0), .val (.int p1), .val (.int p2), .val (.int p3), .val (.ref b39), .val (.int (Int32.ofNat a)), .val (.int (Int32.ofNat b)), .val (.ref b61), .unset, .unset] [(.int (Int32.ofNat a)), (.int (4 : Int32)), (.ref b61), (.ref b39), (.int (((((own_pw (b - a)) + (own_t (own_by p0 p1) 0 a b)) + (own_t (own_by p0 p1) 1 a b)) + (own_t (own_by p0 p1) 2 a b)) + (own_t (own_by p0 p1) 3 a b)))])) _
    refine XS.iload X99.here hx rfl (own_hb hby at_188) rfl ?_
    exact kt
  obtain ⟨_, _, ⟨T100, L100, k100, n100⟩, -, X100, ⟨Lc100, hQ100, l100, y100, z100⟩, st100⟩ := Jvm.LawKit.callS X99 hx (y := (⟨"com/example/gridwire/gridwire/store/ByteSpanArraysHashCodePinLaw", "term", "([B[IIII)I"⟩ : MethodName)) hown (mvT hZ (hw _ (List.mem_of_getElem? (i := 6) rfl))) (mvT hZ (hw _ (List.mem_of_getElem? (i := 7) rfl))) (mvT hZ (hw _ (List.mem_of_getElem? (i := 8) rfl))) (mvT hZ (hw _ (List.mem_of_getElem? (i := 9) rfl))) (by decide) (backOf (W := 1) (rm1 l Z a0 hw [] b39 b61 4 a b (own_by p0 p1) h90 n0 z92 f91 f94 (by decide) hab hb) hZ (hw _ (List.mem_of_getElem? (i := 9) rfl)) (hw _ (List.mem_of_getElem? (i := 8) rfl)) (by decide) (by decide)) (g := (mkF m 190 #[.val (.int p0), .val (.int p1), .val (.int p2), .val (.int p3), .val (.ref b39), .val (.int (Int32.ofNat a)), .val (.int (Int32.ofNat b)), .val (.ref b61), .unset, .unset] [(.int (Int32.ofNat b)), (.int (Int32.ofNat a)), (.int (4 : Int32)), (.ref b61), (.ref b39), (.int (((((own_pw (b - a)) + (own_t (own_by p0 p1) 0 a b)) + (own_t (own_by p0 p1) 1 a b)) + (own_t (own_by p0 p1) 2 a b)) + (own_t (own_by p0 p1) 3 a b)))])) rfl (by rw [hml]; rfl) (argsL := [(.ref b39), (.ref b61), (.int (4 : Int32)), (.int (Int32.ofNat a)), (.int (Int32.ofNat b))]) (rest := [(.int (((((own_pw (b - a)) + (own_t (own_by p0 p1) 0 a b)) + (own_t (own_by p0 p1) 1 a b)) + (own_t (own_by p0 p1) 2 a b)) + (own_t (own_by p0 p1) 3 a b)))]) (lenOf pd_3 rfl) rfl (by show 2 * 0 + _ ≤ _; exact Nat.le_of_eq rfl) (own_hb hby at_190) (fun _ _ => ⟨rfl, hh99, (by decide : 2 + 0 ≤ _), (by decide : 13 + 0 ≤ _)⟩)
  dsimp only [Pt.U, Pt.locs, Pt.cells, Pt.slots] at X100 l100 y100 z100 st100 hQ100
  subst l100 y100 z100
  obtain ⟨rfl, N100q, hh100⟩ := hQ100
  have N100 := Fr.app N99 N100q
  refine own_Go.of (S' := (T100.setTop (mkF m 193 #[.val (.int p0), .val (.int p1), .val (.int p2), .val (.int p3), .val (.ref b39), .val (.int (Int32.ofNat a)), .val (.int (Int32.ofNat b)), .val (.ref b61), .unset, .unset] [(.int (own_t (own_by p0 p1) 4 a b)), (.int (((((own_pw (b - a)) + (own_t (own_by p0 p1) 0 a b)) + (own_t (own_by p0 p1) 1 a b)) + (own_t (own_by p0 p1) 2 a b)) + (own_t (own_by p0 p1) 3 a b)))]))) (fun t kt => st100 t kt) ?_
  refine own_Go.of (S' := (T100.setTop (mkF m 203 #[.val (.int p0), .val (.int p1), .val (.int p2), .val (.int p3), .val (.ref b39), .val (.int (Int32.ofNat a)), .val (.int (Int32.ofNat b)), .val (.ref b61), .unset, .unset] [(.int (Int32.ofNat b)), (.int (Int32.ofNat a)), (.int (5 : Int32)), (.ref b61), (.ref b39), (.int ((((((own_pw (b - a)) + (own_t (own_by p0 p1) 0 a b)) + (own_t (own_by p0 p1) 1 a b)) + (own_t (own_by p0 p1) 2 a b)) + (own_t (own_by p0 p1) 3 a b)) + (own_t (own_by p0 p1) 4 a b)))]))) (fun t kt => ?_) ?_
  · show Steps p.tables e below (T100.setTop (mkF m 193 #[.val (.int p0), .val (.int p1), .val (.int p2), .val (.int p3), .val (.ref b39), .val (.int (Int32.ofNat a)), .val (.int (Int32.ofNat b)), .val (.ref b61), .unset, .unset] [(.int (own_t (own_by p0 p1) 4 a b)), (.int (((((own_pw (b - a)) + (own_t (own_by p0 p1) 0 a b)) + (own_t (own_by p0 p1) 1 a b)) + (own_t (own_by p0 p1) 2 a b)) + (own_t (own_by p0 p1) 3 a b)))])) _
    refine XS.iadd X100.here hx rfl (own_hb hby at_193) rfl ?_
    show Steps p.tables e below (T100.setTop (mkF m 194 #[.val (.int p0), .val (.int p1), .val (.int p2), .val (.int p3), .val (.ref b39), .val (.int (Int32.ofNat a)), .val (.int (Int32.ofNat b)), .val (.ref b61), .unset, .unset] [(.int ((((((own_pw (b - a)) + (own_t (own_by p0 p1) 0 a b)) + (own_t (own_by p0 p1) 1 a b)) + (own_t (own_by p0 p1) 2 a b)) + (own_t (own_by p0 p1) 3 a b)) + (own_t (own_by p0 p1) 4 a b)))])) _
    refine XS.aload X100.here hx rfl (own_hb hby at_194) rfl rfl ?_
    show Steps p.tables e below (T100.setTop (mkF m 196 #[.val (.int p0), .val (.int p1), .val (.int p2), .val (.int p3), .val (.ref b39), .val (.int (Int32.ofNat a)), .val (.int (Int32.ofNat b)), .val (.ref b61), .unset, .unset] [(.ref b39), (.int ((((((own_pw (b - a)) + (own_t (own_by p0 p1) 0 a b)) + (own_t (own_by p0 p1) 1 a b)) + (own_t (own_by p0 p1) 2 a b)) + (own_t (own_by p0 p1) 3 a b)) + (own_t (own_by p0 p1) 4 a b)))])) _
    refine XS.aload X100.here hx rfl (own_hb hby at_196) rfl rfl ?_
    show Steps p.tables e below (T100.setTop (mkF m 198 #[.val (.int p0), .val (.int p1), .val (.int p2), .val (.int p3), .val (.ref b39), .val (.int (Int32.ofNat a)), .val (.int (Int32.ofNat b)), .val (.ref b61), .unset, .unset] [(.ref b61), (.ref b39), (.int ((((((own_pw (b - a)) + (own_t (own_by p0 p1) 0 a b)) + (own_t (own_by p0 p1) 1 a b)) + (own_t (own_by p0 p1) 2 a b)) + (own_t (own_by p0 p1) 3 a b)) + (own_t (own_by p0 p1) 4 a b)))])) _
    refine XS.iconst X100.here hx rfl (own_hb hby at_198) ?_
    show Steps p.tables e below (T100.setTop (mkF m 199 #[.val (.int p0), .val (.int p1), .val (.int p2), .val (.int p3), .val (.ref b39), .val (.int (Int32.ofNat a)), .val (.int (Int32.ofNat b)), .val (.ref b61), .unset, .unset] [(.int (5 : Int32)), (.ref b61), (.ref b39), (.int ((((((own_pw (b - a)) + (own_t (own_by p0 p1) 0 a b)) + (own_t (own_by p0 p1) 1 a b)) + (own_t (own_by p0 p1) 2 a b)) + (own_t (own_by p0 p1) 3 a b)) + (own_t (own_by p0 p1) 4 a b)))])) _
    refine XS.iload X100.here hx rfl (own_hb hby at_199) rfl ?_
    show Steps p.tables e below (T100.setTop (mkF m 201 #[.val (.int p0), .val (.int p1), .val (.int p2), .val (.int p3), .val (.ref b39), .val (.int (Int32.ofNat a)), .val (.int (Int32.ofNat b)), .val (.ref b61), .unset, .unset] [(.int (Int32.ofNat a)), (.int (5 : Int32)), (.ref b61), (.ref b39), (.int ((((((own_pw (b - a)) + (own_t (own_by p0 p1) 0 a b)) + (own_t (own_by p0 p1) 1 a b)) + (own_t (own_by p0 p1) 2 a b)) + (own_t (own_by p0 p1) 3 a b)) + (own_t (own_by p0 p1) 4 a b)))])) _
    refine XS.iload X100.here hx rfl (own_hb hby at_201) rfl ?_
    exact kt
  obtain ⟨_, _, ⟨T101, L101, k101, n101⟩, -, X101, ⟨Lc101, hQ101, l101, y101, z101⟩, st101⟩ := Jvm.LawKit.callS X100 hx (y := (⟨"com/example/gridwire/gridwire/store/ByteSpanArraysHashCodePinLaw", "term", "([B[IIII)I"⟩ : MethodName)) hown (mvT hZ (hw _ (List.mem_of_getElem? (i := 6) rfl))) (mvT hZ (hw _ (List.mem_of_getElem? (i := 7) rfl))) (mvT hZ (hw _ (List.mem_of_getElem? (i := 8) rfl))) (mvT hZ (hw _ (List.mem_of_getElem? (i := 9) rfl))) (by decide) (backOf (W := 1) (rm1 l Z a0 hw [] b39 b61 5 a b (own_by p0 p1) h90 n0 z92 f91 f94 (by decide) hab hb) hZ (hw _ (List.mem_of_getElem? (i := 9) rfl)) (hw _ (List.mem_of_getElem? (i := 8) rfl)) (by decide) (by decide)) (g := (mkF m 203 #[.val (.int p0), .val (.int p1), .val (.int p2), .val (.int p3), .val (.ref b39), .val (.int (Int32.ofNat a)), .val (.int (Int32.ofNat b)), .val (.ref b61), .unset, .unset] [(.int (Int32.ofNat b)), (.int (Int32.ofNat a)), (.int (5 : Int32)), (.ref b61), (.ref b39), (.int ((((((own_pw (b - a)) + (own_t (own_by p0 p1) 0 a b)) + (own_t (own_by p0 p1) 1 a b)) + (own_t (own_by p0 p1) 2 a b)) + (own_t (own_by p0 p1) 3 a b)) + (own_t (own_by p0 p1) 4 a b)))])) rfl (by rw [hml]; rfl) (argsL := [(.ref b39), (.ref b61), (.int (5 : Int32)), (.int (Int32.ofNat a)), (.int (Int32.ofNat b))]) (rest := [(.int ((((((own_pw (b - a)) + (own_t (own_by p0 p1) 0 a b)) + (own_t (own_by p0 p1) 1 a b)) + (own_t (own_by p0 p1) 2 a b)) + (own_t (own_by p0 p1) 3 a b)) + (own_t (own_by p0 p1) 4 a b)))]) (lenOf pd_3 rfl) rfl (by show 2 * 0 + _ ≤ _; exact Nat.le_of_eq rfl) (own_hb hby at_203) (fun _ _ => ⟨rfl, hh100, (by decide : 2 + 0 ≤ _), (by decide : 13 + 0 ≤ _)⟩)
  dsimp only [Pt.U, Pt.locs, Pt.cells, Pt.slots] at X101 l101 y101 z101 st101 hQ101
  subst l101 y101 z101
  obtain ⟨rfl, N101q, hh101⟩ := hQ101
  have N101 := Fr.app N100 N101q
  refine own_Go.of (S' := (T101.setTop (mkF m 206 #[.val (.int p0), .val (.int p1), .val (.int p2), .val (.int p3), .val (.ref b39), .val (.int (Int32.ofNat a)), .val (.int (Int32.ofNat b)), .val (.ref b61), .unset, .unset] [(.int (own_t (own_by p0 p1) 5 a b)), (.int ((((((own_pw (b - a)) + (own_t (own_by p0 p1) 0 a b)) + (own_t (own_by p0 p1) 1 a b)) + (own_t (own_by p0 p1) 2 a b)) + (own_t (own_by p0 p1) 3 a b)) + (own_t (own_by p0 p1) 4 a b)))]))) (fun t kt => st101 t kt) ?_
  refine own_Go.of (S' := (T101.setTop (mkF m 209 #[.val (.int p0), .val (.int p1), .val (.int p2), .val (.int p3), .val (.ref b39), .val (.int (Int32.ofNat a)), .val (.int (Int32.ofNat b)), .val (.ref b61), .val (.int (((((((own_pw (b - a)) + (own_t (own_by p0 p1) 0 a b)) + (own_t (own_by p0 p1) 1 a b)) + (own_t (own_by p0 p1) 2 a b)) + (own_t (own_by p0 p1) 3 a b)) + (own_t (own_by p0 p1) 4 a b)) + (own_t (own_by p0 p1) 5 a b))), .unset] []))) (fun t kt => ?_) ?_
  · show Steps p.tables e below (T101.setTop (mkF m 206 #[.val (.int p0), .val (.int p1), .val (.int p2), .val (.int p3), .val (.ref b39), .val (.int (Int32.ofNat a)), .val (.int (Int32.ofNat b)), .val (.ref b61), .unset, .unset] [(.int (own_t (own_by p0 p1) 5 a b)), (.int ((((((own_pw (b - a)) + (own_t (own_by p0 p1) 0 a b)) + (own_t (own_by p0 p1) 1 a b)) + (own_t (own_by p0 p1) 2 a b)) + (own_t (own_by p0 p1) 3 a b)) + (own_t (own_by p0 p1) 4 a b)))])) _
    refine XS.iadd X101.here hx rfl (own_hb hby at_206) rfl ?_
    show Steps p.tables e below (T101.setTop (mkF m 207 #[.val (.int p0), .val (.int p1), .val (.int p2), .val (.int p3), .val (.ref b39), .val (.int (Int32.ofNat a)), .val (.int (Int32.ofNat b)), .val (.ref b61), .unset, .unset] [(.int (((((((own_pw (b - a)) + (own_t (own_by p0 p1) 0 a b)) + (own_t (own_by p0 p1) 1 a b)) + (own_t (own_by p0 p1) 2 a b)) + (own_t (own_by p0 p1) 3 a b)) + (own_t (own_by p0 p1) 4 a b)) + (own_t (own_by p0 p1) 5 a b)))])) _
    refine XS.istore X101.here hx rfl (own_hb hby at_207) rfl (l' := #[.val (.int p0), .val (.int p1), .val (.int p2), .val (.int p3), .val (.ref b39), .val (.int (Int32.ofNat a)), .val (.int (Int32.ofNat b)), .val (.ref b61), .val (.int (((((((own_pw (b - a)) + (own_t (own_by p0 p1) 0 a b)) + (own_t (own_by p0 p1) 1 a b)) + (own_t (own_by p0 p1) 2 a b)) + (own_t (own_by p0 p1) 3 a b)) + (own_t (own_by p0 p1) 4 a b)) + (own_t (own_by p0 p1) 5 a b))), .unset]) rfl ?_
    exact kt
  obtain ⟨T102, h102, X102, e102, E102, A102, D102, -, st102⟩ := newO X101 hx hZ hown (hw _ (List.mem_of_getElem? (i := 10) rfl)) (hw _ (List.mem_of_getElem? (i := 11) rfl)) (hw _ (List.mem_of_getElem? (i := 12) rfl)) hh101 (g := (mkF m 209 #[.val (.int p0), .val (.int p1), .val (.int p2), .val (.int p3), .val (.ref b39), .val (.int (Int32.ofNat a)), .val (.int (Int32.ofNat b)), .val (.ref b61), .val (.int (((((((own_pw (b - a)) + (own_t (own_by p0 p1) 0 a b)) + (own_t (own_by p0 p1) 1 a b)) + (own_t (own_by p0 p1) 2 a b)) + (own_t (own_by p0 p1) 3 a b)) + (own_t (own_by p0 p1) 4 a b)) + (own_t (own_by p0 p1) 5 a b))), .unset] [])) rfl (own_hb hby at_209) (by decide) (by decide)
  obtain ⟨b102, g102⟩ : ∃ z, z = h90.size := ⟨_, rfl⟩
  rw [← g102] at A102 D102 st102
  have gx102 : n0 ≤ b102 := Nat.le_trans z92 (Nat.le_of_eq g102.symm)
  have ne103 : b39 ≠ b102 := Nat.ne_of_lt (Nat.lt_of_lt_of_le f91.lt (Nat.le_of_eq g102.symm))
  have ne104 : b61 ≠ b102 := Nat.ne_of_lt (Nat.lt_of_lt_of_le f94.lt (Nat.le_of_eq g102.symm))
  refine own_Go.of (S' := (T102.setTop (mkF m 212 #[.val (.int p0), .val (.int p1), .val (.int p2), .val (.int p3), .val (.ref b39), .val (.int (Int32.ofNat a)), .val (.int (Int32.ofNat b)), .val (.ref b61), .val (.int (((((((own_pw (b - a)) + (own_t (own_by p0 p1) 0 a b)) + (own_t (own_by p0 p1) 1 a b)) + (own_t (own_by p0 p1) 2 a b)) + (own_t (own_by p0 p1) 3 a b)) + (own_t (own_by p0 p1) 4 a b)) + (own_t (own_by p0 p1) 5 a b))), .unset] [(.ref b102)]))) st102 ?_
  have f105 : own_Ar Z h102 b39 .byte 6 (own_I (own_by p0 p1)) := f91.ext E102
  have f106 : own_Ar Z h102 b61 .int 7 (own_I own_pw) := f94.ext E102
  have z107 : n0 ≤ h102.size := Nat.le_trans z92 E102.1
  have f108 : Fld Z h102 b102 "com/example/gridwire/gridwire/store/ByteSpan" "array" "[B" .null := D102 (Or.inr (hw _ (List.mem_of_getElem? (i := 33) rfl))) (ty := (.array .byte)) (by decide)
  have f109 : Fld Z h102 b102 "com/example/gridwire/gridwire/store/ByteSpan" "from" "I" (.int (0 : Int32)) := D102 (Or.inr (hw _ (List.mem_of_getElem? (i := 35) rfl))) (ty := .int) (by decide)
  have f110 : Fld Z h102 b102 "com/example/gridwire/gridwire/store/ByteSpan" "to" "I" (.int (0 : Int32)) := D102 (Or.inr (hw _ (List.mem_of_getElem? (i := 37) rfl))) (ty := .int) (by decide)
  refine own_Go.of (S' := (T102.setTop (mkF m 219 #[.val (.int p0), .val (.int p1), .val (.int p2), .val (.int p3), .val (.ref b39), .val (.int (Int32.ofNat a)), .val (.int (Int32.ofNat b)), .val (.ref b61), .val (.int (((((((own_pw (b - a)) + (own_t (own_by p0 p1) 0 a b)) + (own_t (own_by p0 p1) 1 a b)) + (own_t (own_by p0 p1) 2 a b)) + (own_t (own_by p0 p1) 3 a b)) + (own_t (own_by p0 p1) 4 a b)) + (own_t (own_by p0 p1) 5 a b))), .unset] [(.int (Int32.ofNat b)), (.int (Int32.ofNat a)), (.ref b39), (.ref b102), (.ref b102)]))) (fun t kt => ?_) ?_
  · show Steps p.tables e below (T102.setTop (mkF m 212 #[.val (.int p0), .val (.int p1), .val (.int p2), .val (.int p3), .val (.ref b39), .val (.int (Int32.ofNat a)), .val (.int (Int32.ofNat b)), .val (.ref b61), .val (.int (((((((own_pw (b - a)) + (own_t (own_by p0 p1) 0 a b)) + (own_t (own_by p0 p1) 1 a b)) + (own_t (own_by p0 p1) 2 a b)) + (own_t (own_by p0 p1) 3 a b)) + (own_t (own_by p0 p1) 4 a b)) + (own_t (own_by p0 p1) 5 a b))), .unset] [(.ref b102)])) _
    refine XS.dup X102.here hx rfl (own_hb hby at_212) rfl rfl ?_
    show Steps p.tables e below (T102.setTop (mkF m 213 #[.val (.int p0), .val (.int p1), .val (.int p2), .val (.int p3), .val (.ref b39), .val (.int (Int32.ofNat a)), .val (.int (Int32.ofNat b)), .val (.ref b61), .val (.int (((((((own_pw (b - a)) + (own_t (own_by p0 p1) 0 a b)) + (own_t (own_by p0 p1) 1 a b)) + (own_t (own_by p0 p1) 2 a b)) + (own_t (own_by p0 p1) 3 a b)) + (own_t (own_by p0 p1) 4 a b)) + (own_t (own_by p0 p1) 5 a b))), .unset] [(.ref b102), (.ref b102)])) _
    refine XS.aload X102.here hx rfl (own_hb hby at_213) rfl rfl ?_
    show Steps p.tables e below (T102.setTop (mkF m 215 #[.val (.int p0), .val (.int p1), .val (.int p2), .val (.int p3), .val (.ref b39), .val (.int (Int32.ofNat a)), .val (.int (Int32.ofNat b)), .val (.ref b61), .val (.int (((((((own_pw (b - a)) + (own_t (own_by p0 p1) 0 a b)) + (own_t (own_by p0 p1) 1 a b)) + (own_t (own_by p0 p1) 2 a b)) + (own_t (own_by p0 p1) 3 a b)) + (own_t (own_by p0 p1) 4 a b)) + (own_t (own_by p0 p1) 5 a b))), .unset] [(.ref b39), (.ref b102), (.ref b102)])) _
    refine XS.iload X102.here hx rfl (own_hb hby at_215) rfl ?_
    show Steps p.tables e below (T102.setTop (mkF m 217 #[.val (.int p0), .val (.int p1), .val (.int p2), .val (.int p3), .val (.ref b39), .val (.int (Int32.ofNat a)), .val (.int (Int32.ofNat b)), .val (.ref b61), .val (.int (((((((own_pw (b - a)) + (own_t (own_by p0 p1) 0 a b)) + (own_t (own_by p0 p1) 1 a b)) + (own_t (own_by p0 p1) 2 a b)) + (own_t (own_by p0 p1) 3 a b)) + (own_t (own_by p0 p1) 4 a b)) + (own_t (own_by p0 p1) 5 a b))), .unset] [(.int (Int32.ofNat a)), (.ref b39), (.ref b102), (.ref b102)])) _
    refine XS.iload X102.here hx rfl (own_hb hby at_217) rfl ?_
    exact kt
  obtain ⟨_, _, ⟨T111, L111, k111, n111⟩, -, X111, ⟨Lc111, hQ111, l111, y111, z111⟩, st111⟩ := X102.specialBack hx (y := (⟨"com/example/gridwire/gridwire/store/ByteSpan", "<init>", "([BII)V"⟩ : MethodName)) rfl hown (mvT hZ (hw _ (List.mem_of_getElem? (i := 13) rfl))) (mvT hZ (hw _ (List.mem_of_getElem? (i := 14) rfl))) (mvT hZ (hw _ (List.mem_of_getElem? (i := 15) rfl))) (by decide) (backOf (W := 1) (rm2 l Z a0 hw [] b102 b39 a b 6 (own_I (own_by p0 p1)) .null (.int (0 : Int32)) (.int (0 : Int32)) h102 n0 z107 A102 f108 f109 f110 f105 gx102 ne103 hab hb (by decide)) hZ (hw _ (List.mem_of_getElem? (i := 15) rfl)) (hw _ (List.mem_of_getElem? (i := 12) rfl)) (by decide) (by decide)) (g := (mkF m 219 #[.val (.int p0), .val (.int p1), .val (.int p2), .val (.int p3), .val (.ref b39), .val (.int (Int32.ofNat a)), .val (.int (Int32.ofNat b)), .val (.ref b61), .val (.int (((((((own_pw (b - a)) + (own_t (own_by p0 p1) 0 a b)) + (own_t (own_by p0 p1) 1 a b)) + (own_t (own_by p0 p1) 2 a b)) + (own_t (own_by p0 p1) 3 a b)) + (own_t (own_by p0 p1) 4 a b)) + (own_t (own_by p0 p1) 5 a b))), .unset] [(.int (Int32.ofNat b)), (.int (Int32.ofNat a)), (.ref b39), (.ref b102), (.ref b102)])) rfl (by rw [hml]; rfl) (Steps.refl _) (a := b102) (argsL := [(.ref b39), (.int (Int32.ofNat a)), (.int (Int32.ofNat b))]) (rest := [(.ref b102)]) (lenOf pd_4 rfl) rfl (by show 2 * 0 + _ ≤ _; exact Nat.le_of_eq rfl) (own_hb hby at_219) (fun _ _ => ⟨rfl, e102, (by decide : 3 + 0 ≤ _), (by decide : 16 + 0 ≤ _)⟩)
  dsimp only [Pt.U, Pt.locs, Pt.cells, Pt.slots] at X111 l111 y111 z111 st111 hQ111
  subst l111 y111 z111
  obtain ⟨rfl, N111q, K111, p111_0, p111_1, p111_2, p111_3⟩ := hQ111
  have N111 := Fr.app N101 N111q
  refine own_Go.of (S' := (T111.setTop (mkF m 222 #[.val (.int p0), .val (.int p1), .val (.int p2), .val (.int p3), .val (.ref b39), .val (.int (Int32.ofNat a)), .val (.int (Int32.ofNat b)), .val (.ref b61), .val (.int (((((((own_pw (b - a)) + (own_t (own_by p0 p1) 0 a b)) + (own_t (own_by p0 p1) 1 a b)) + (own_t (own_by p0 p1) 2 a b)) + (own_t (own_by p0 p1) 3 a b)) + (own_t (own_by p0 p1) 4 a b)) + (own_t (own_by p0 p1) 5 a b))), .unset] [(.ref b102)]))) (fun t kt => st111.trans kt) ?_
  have f112 : own_Ar Z T111.heap b39 .byte 6 (own_I (own_by p0 p1)) := f105.keep K111 (ninS ne103 nin0)
  have f113 : own_Ar Z T111.heap b61 .int 7 (own_I own_pw) := f106.keep K111 (ninS ne104 nin0)
  have f114 : Exa Z T111.heap b102 "com/example/gridwire/gridwire/store/ByteSpan" := A102.keep K111
  have z115 : n0 ≤ T111.heap.size := Nat.le_trans z107 K111.1
  refine own_Go.of (S' := (T111.setTop (mkF m 226 #[.val (.int p0), .val (.int p1), .val (.int p2), .val (.int p3), .val (.ref b39), .val (.int (Int32.ofNat a)), .val (.int (Int32.ofNat b)), .val (.ref b61), .val (.int (((((((own_pw (b - a)) + (own_t (own_by p0 p1) 0 a b)) + (own_t (own_by p0 p1) 1 a b)) + (own_t (own_by p0 p1) 2 a b)) + (own_t (own_by p0 p1) 3 a b)) + (own_t (own_by p0 p1) 4 a b)) + (own_t (own_by p0 p1) 5 a b))), .val (.ref b102)] [(.ref b102)]))) (fun t kt => ?_) ?_
  · show Steps p.tables e below (T111.setTop (mkF m 222 #[.val (.int p0), .val (.int p1), .val (.int p2), .val (.int p3), .val (.ref b39), .val (.int (Int32.ofNat a)), .val (.int (Int32.ofNat b)), .val (.ref b61), .val (.int (((((((own_pw (b - a)) + (own_t (own_by p0 p1) 0 a b)) + (own_t (own_by p0 p1) 1 a b)) + (own_t (own_by p0 p1) 2 a b)) + (own_t (own_by p0 p1) 3 a b)) + (own_t (own_by p0 p1) 4 a b)) + (own_t (own_by p0 p1) 5 a b))), .unset] [(.ref b102)])) _
    refine XS.astore X111.here hx rfl (own_hb hby at_222) rfl rfl (l' := #[.val (.int p0), .val (.int p1), .val (.int p2), .val (.int p3), .val (.ref b39), .val (.int (Int32.ofNat a)), .val (.int (Int32.ofNat b)), .val (.ref b61), .val (.int (((((((own_pw (b - a)) + (own_t (own_by p0 p1) 0 a b)) + (own_t (own_by p0 p1) 1 a b)) + (own_t (own_by p0 p1) 2 a b)) + (own_t (own_by p0 p1) 3 a b)) + (own_t (own_by p0 p1) 4 a b)) + (own_t (own_by p0 p1) 5 a b))), .val (.ref b102)]) rfl ?_
    show Steps p.tables e below (T111.setTop (mkF m 224 #[.val (.int p0), .val (.int p1), .val (.int p2), .val (.int p3), .val (.ref b39), .val (.int (Int32.ofNat a)), .val (.int (Int32.ofNat b)), .val (.ref b61), .val (.int (((((((own_pw (b - a)) + (own_t (own_by p0 p1) 0 a b)) + (own_t (own_by p0 p1) 1 a b)) + (own_t (own_by p0 p1) 2 a b)) + (own_t (own_by p0 p1) 3 a b)) + (own_t (own_by p0 p1) 4 a b)) + (own_t (own_by p0 p1) 5 a b))), .val (.ref b102)] [])) _
    refine XS.aload X111.here hx rfl (own_hb hby at_224) rfl rfl ?_
    exact kt
  obtain ⟨cq116, kq116, q116a, q116b, q116c⟩ := isOf hZ rfl p111_0
  obtain ⟨_, _, ⟨T116, L116, k116, n116⟩, -, X116, ⟨Lc116, hQ116, l116, y116, z116⟩, st116⟩ := X111.virtualBack hx (y := (⟨"com/example/gridwire/gridwire/store/ByteSpan", "arraysHashCode", "()I"⟩ : MethodName)) (z := (⟨"com/example/gridwire/gridwire/store/ByteSpan", "arraysHashCode", "()I"⟩ : MethodName)) hown (mvT hZ (hw _ (List.mem_of_getElem? (i := 38) rfl))) (mvT hZ (hw _ (List.mem_of_getElem? (i := 39) rfl))) (notFace_of_selects (args := #[]) (mvT hZ (hw _ (List.mem_of_getElem? (i := 41) rfl)))) (mvT hZ (hw _ (List.mem_of_getElem? (i := 41) rfl))) (mvT hZ (hw _ (List.mem_of_getElem? (i := 40) rfl))) (by decide) (backOf (W := 0) (rm7 l Z a0 hw [] b102 b39 a b (own_by p0 p1) T111.heap n0 z115 p111_1 p111_2 p111_3 f112 hab hb) hZ (hw _ (List.mem_of_getElem? (i := 42) rfl)) (hw _ (List.mem_of_getElem? (i := 12) rfl)) (by decide) (by decide)) q116a q116c (g := (mkF m 226 #[.val (.int p0), .val (.int p1), .val (.int p2), .val (.int p3), .val (.ref b39), .val (.int (Int32.ofNat a)), .val (.int (Int32.ofNat b)), .val (.ref b61), .val (.int (((((((own_pw (b - a)) + (own_t (own_by p0 p1) 0 a b)) + (own_t (own_by p0 p1) 1 a b)) + (own_t (own_by p0 p1) 2 a b)) + (own_t (own_by p0 p1) 3 a b)) + (own_t (own_by p0 p1) 4 a b)) + (own_t (own_by p0 p1) 5 a b))), .val (.ref b102)] [(.ref b102)])) rfl (by rw [hml]; rfl) (Steps.refl _) (argsL := []) (rest := []) (lenOf pd_5 rfl) rfl (by show 2 * 0 + _ ≤ _; exact Nat.le_of_eq rfl) (own_hb hby at_226) (fun _ _ => ⟨rfl, rfl, (by decide : 3 + 0 ≤ _), (by decide : 16 + 0 ≤ _)⟩)
  dsimp only [Pt.U, Pt.locs, Pt.cells, Pt.slots] at X116 l116 y116 z116 st116 hQ116
  subst l116 y116 z116
  obtain ⟨rfl, N116q, hh116⟩ := hQ116
  have N116 := Fr.app N111 N116q
  refine own_Go.of (S' := (T116.setTop (mkF m 229 #[.val (.int p0), .val (.int p1), .val (.int p2), .val (.int p3), .val (.ref b39), .val (.int (Int32.ofNat a)), .val (.int (Int32.ofNat b)), .val (.ref b61), .val (.int (((((((own_pw (b - a)) + (own_t (own_by p0 p1) 0 a b)) + (own_t (own_by p0 p1) 1 a b)) + (own_t (own_by p0 p1) 2 a b)) + (own_t (own_by p0 p1) 3 a b)) + (own_t (own_by p0 p1) 4 a b)) + (own_t (own_by p0 p1) 5 a b))), .val (.ref b102)] [(.int (own_h (own_by p0 p1) a (b - a)))]))) (fun t kt => st116.trans kt) ?_
  refine own_Go.of (S' := (T116.setTop (mkF m 239 #[.val (.int p0), .val (.int p1), .val (.int p2), .val (.int p3), .val (.ref b39), .val (.int (Int32.ofNat a)), .val (.int (Int32.ofNat b)), .val (.ref b61), .val (.int (((((((own_pw (b - a)) + (own_t (own_by p0 p1) 0 a b)) + (own_t (own_by p0 p1) 1 a b)) + (own_t (own_by p0 p1) 2 a b)) + (own_t (own_by p0 p1) 3 a b)) + (own_t (own_by p0 p1) 4 a b)) + (own_t (own_by p0 p1) 5 a b))), .val (.ref b102)] [(.int (1 : Int32))]))) (fun t kt => ?_) ?_
  · show Steps p.tables e below (T116.setTop (mkF m 229 #[.val (.int p0), .val (.int p1), .val (.int p2), .val (.int p3), .val (.ref b39), .val (.int (Int32.ofNat a)), .val (.int (Int32.ofNat b)), .val (.ref b61), .val (.int (((((((own_pw (b - a)) + (own_t (own_by p0 p1) 0 a b)) + (own_t (own_by p0 p1) 1 a b)) + (own_t (own_by p0 p1) 2 a b)) + (own_t (own_by p0 p1) 3 a b)) + (own_t (own_by p0 p1) 4 a b)) + (own_t (own_by p0 p1) 5 a b))), .val (.ref b102)] [(.int (own_h (own_by p0 p1) a (b - a)))])) _
    refine XS.iload X116.here hx rfl (own_hb hby at_229) rfl ?_
    show Steps p.tables e below (T116.setTop (mkF m 231 #[.val (.int p0), .val (.int p1), .val (.int p2), .val (.int p3), .val (.ref b39), .val (.int (Int32.ofNat a)), .val (.int (Int32.ofNat b)), .val (.ref b61), .val (.int (((((((own_pw (b - a)) + (own_t (own_by p0 p1) 0 a b)) + (own_t (own_by p0 p1) 1 a b)) + (own_t (own_by p0 p1) 2 a b)) + (own_t (own_by p0 p1) 3 a b)) + (own_t (own_by p0 p1) 4 a b)) + (own_t (own_by p0 p1) 5 a b))), .val (.ref b102)] [(.int (((((((own_pw (b - a)) + (own_t (own_by p0 p1) 0 a b)) + (own_t (own_by p0 p1) 1 a b)) + (own_t (own_by p0 p1) 2 a b)) + (own_t (own_by p0 p1) 3 a b)) + (own_t (own_by p0 p1) 4 a b)) + (own_t (own_by p0 p1) 5 a b))), (.int (own_h (own_by p0 p1) a (b - a)))])) _
    refine XS.icmpNo X116.here hx rfl (own_hb hby at_231) rfl (teq (own_hash _ a b hab hb)).2 ?_
    show Steps p.tables e below (T116.setTop (mkF m 234 #[.val (.int p0), .val (.int p1), .val (.int p2), .val (.int p3), .val (.ref b39), .val (.int (Int32.ofNat a)), .val (.int (Int32.ofNat b)), .val (.ref b61), .val (.int (((((((own_pw (b - a)) + (own_t (own_by p0 p1) 0 a b)) + (own_t (own_by p0 p1) 1 a b)) + (own_t (own_by p0 p1) 2 a b)) + (own_t (own_by p0 p1) 3 a b)) + (own_t (own_by p0 p1) 4 a b)) + (own_t (own_by p0 p1) 5 a b))), .val (.ref b102)] [])) _
    refine XS.iconst X116.here hx rfl (own_hb hby at_234) ?_
    show Steps p.tables e below (T116.setTop (mkF m 235 #[.val (.int p0), .val (.int p1), .val (.int p2), .val (.int p3), .val (.ref b39), .val (.int (Int32.ofNat a)), .val (.int (Int32.ofNat b)), .val (.ref b61), .val (.int (((((((own_pw (b - a)) + (own_t (own_by p0 p1) 0 a b)) + (own_t (own_by p0 p1) 1 a b)) + (own_t (own_by p0 p1) 2 a b)) + (own_t (own_by p0 p1) 3 a b)) + (own_t (own_by p0 p1) 4 a b)) + (own_t (own_by p0 p1) 5 a b))), .val (.ref b102)] [(.int (1 : Int32))])) _
    refine XS.goto X116.here hx rfl (pc0 := 235) (pc' := 239) rfl (own_hb hby at_235) (by decide) (by decide) ?_
    exact kt
  exact own_retN X116 hx hlk (t := .boolean) hret (by simp) (own_hb hby at_239) hh116 ⟨rfl, N116⟩ (by decide) (by decide)
set_option maxRecDepth 65536 in
set_option maxHeartbeats 40000000 in
theorem comes_1 {Post : Tables → Env → Array Value → State → Outcome → State → Prop} (hpost : ∀ tb e args s v u, (limb_1_1.after args s (.returned v) u = true ∧ limb_1_2.after args s (.returned v) u = true ∧ True) → FrameEnd s (.returned v) u (Jvm.fieldLocs frame_1_writes args s ++ Jvm.arrayLocs frame_1_arrays args s ++ Jvm.staticLocs frame_1_statics s) 16 128 → Post tb e args s (.returned v) u) :
    ArmFor flags0 classFile x code maxLocals ret World_1 tables_1 room_1 Calls_1 rest_1 Pre_1 Post := by
  intro l hfl _ _ p e ha hc hk s m args below hf hA hF happ hP
  obtain ⟨hcalls, hrest, hpre⟩ := hP
  obtain ⟨-, -, -, hnamed, -, -, -, hat⟩ := (Spec.applies_iff hf).mp happ
  obtain ⟨hg, hn⟩ := and_e (Cond.before_iff.mp (show (Jvm.Cond.and given_1 narrow_1).before args s = true from hpre))
  obtain ⟨gc, gr0⟩ := and_e hg
  obtain ⟨ga0, gr1⟩ := and_e gr0
  obtain ⟨ga1, gr2⟩ := and_e gr1
  obtain ⟨ga2, gr3⟩ := and_e gr2
  obtain ⟨w0, w1, w2, w3, rfl⟩ : ∃ w0 w1 w2 w3 : Value, args = #[w0, w1, w2, w3] := by
    have hs : args.size = 4 := by simpa [Cond.value, given_1] using gc
    obtain ⟨L⟩ := args
    match L, hs with
    | [w0, w1, w2, w3], _ => exact ⟨w0, w1, w2, w3, rfl⟩
  have hw := fun d (hd : d ∈ tables_1) => atoms_spec (ws := Jvm.Cond.code x code maxLocals ret :: tables_1) hat d (List.mem_cons_of_mem _ hd)
  have hfit : Fit s := fun {y c} hc i hi => by
    obtain ⟨ha, rfl⟩ := Array.getElem?_eq_some_iff.mp hc
    have q := List.all_eq_true.mp ((Array.all_eq_true_iff_forall_mem.mp hF) _ (Array.getElem_mem ha)) i (List.mem_range.mpr hi)
    simpa [Array.getElem?_eq_getElem hi] using q
  obtain ⟨i0, ei0⟩ := is_v ga0
  obtain rfl : w0 = (.int i0) := Option.some.inj ei0
  obtain ⟨i1, ei1⟩ := is_v ga1
  obtain rfl : w1 = (.int i1) := Option.some.inj ei1
  obtain ⟨i2, ei2⟩ := is_v ga2
  obtain rfl : w2 = (.int i2) := Option.some.inj ei2
  obtain ⟨i3, ei3⟩ := is_v gr3
  obtain rfl : w3 = (.int i3) := Option.some.inj ei3
  obtain ⟨n, o, h1, h2, h3, _, L, rfl, ⟨rfl, N⟩, hq⟩ := rm0 l s _ hw tables_1 i0 i1 i2 i3 s.heap s.heap.size (Nat.le_refl _)  p e ha hc hk s m _ below hf ((Spec.applies_iff_loose hf).mp happ).1 ⟨rfl, State.Warmed39.refl s, rfl⟩ trivial
  refine ⟨n, _, h1, h2, h3, hpost _ _ _ _ _ _ ⟨Cond.after_iff.mpr rfl, Cond.after_iff.mpr (eq_i res_at (Term.int_eval (1)) rfl), trivial⟩ ⟨hq.1, hq.2.1, (hq.2.2.sift fun y hy => Or.inr (N y hy)).mono (by decide) (by decide)⟩⟩
theorem main_1_1 : Claimed_1_1 := comes_1 fun _ _ _ _ _ _ h hF => ⟨h.1, hF⟩
theorem main_1_2 : Claimed_1_2 := comes_1 fun _ _ _ _ _ _ h hF => ⟨h.2.1, hF⟩
end Jvm.Pilot.@@N@@
namespace Jvm.Pilot.@@N@@
open Jvm Jvm.ClassFile Sem Op Lib Jvm.Free Jvm.Stand Jvm.Pilot.@@N@@.Jvm.D
/-! MADE BY PROGRAM (witnessworld.py) out of the Statement's table words and the real class files: 13 classes; the members and pool entries that the words name. The judged class is class 1, her method 2. -/
namespace start1
open Jvm.ClassFile
def u (s : String) : CpInfo := .utf8 (stringToUtf16 s)
/-- a pool by its gaps: so many unusable entries, then the entry; so many at the end -/
def gap : Nat → List CpInfo → List CpInfo
  | 0, r => r
  | n + 1, r => .unusable :: gap n r
def poolList (es : List (Nat × CpInfo)) (last : Nat) : List CpInfo := es.foldr (fun e r => gap e.1 (e.2 :: r)) (gap last [])
def pool (es : List (Nat × CpInfo)) (last : Nat) : Array CpInfo := ⟨poolList es last⟩
def fileOf (pool : Array CpInfo) (this : Nat) (attrs : Array Attribute := #[]) (ms : Array MethodInfo := #[]) (fl : Nat := 33) (sup : Nat := 0) (ifs : Array Nat := #[]) (fds : Array FieldInfo := #[]) : ClassFile where
  minorVersion := 0
  majorVersion := 65
  constantPool := pool
  accessFlags := fl
  thisClass := this
  superClass := sup
  interfaces := ifs
  fields := fds
  methods := ms
  attributes := attrs
def plain (name : String) (sup : Option ClassId) : Class where
  name := name
  kind := .ordinary
  loader := none
  accessFlags := 33
  super := sup
  interfaces := #[]
  cf := none
  fields := #[]
  methods := #[]
  instanceTypes := #[]
  staticTypes := #[]
  resolved := #[]
  callSites := []
  init := .initialized
  statics := none
  mirror := none

def pool0 : Array CpInfo := pool [(5, u "<init>"), (0, u "()V"), (1, .class_ 10), (1, u "java/lang/Object")] 113

def k0c0 : Code := { maxStack := 0, maxLocals := 1, code := object_method_1_code, exceptionTable := #[], attributes := #[] }
def k0m0 : Method := { name := "<init>", desc := "()V", sig := { parameters := [], returnType := none }, accessFlags := 1, code := some k0c0 }
/-- java/lang/Object -/
def k0 : Class := { plain "java/lang/Object" none with
  accessFlags := 33
  interfaces := #[]
  cf := some (fileOf pool0 8 #[] #[{ accessFlags := 1, nameIndex := 5, descriptorIndex := 6, attributes := #[] }] 33 0 #[] #[])
  fields := #[]
  methods := #[k0m0]
  instanceTypes := #[]
  staticTypes := #[]
  resolved := Array.replicate 124 none
  statics := none }

def pool1 : Array CpInfo := pool [(2, .class_ 4), (1, u "java/lang/Object"), (0, u "<init>"), (0, u "()V"), (0, .integer 2147483647), (0, .integer 923521), (0, .integer 28629151), (0, .integer 887503681), (0, .methodref 12 13), (0, .class_ 14), (0, .nameAndType 15 16), (0, u "com/example/gridwire/gridwire/store/ByteSpanArraysHashCodePinLaw"), (0, u "term"), (0, u "([B[IIII)I"), (0, .class_ 18), (0, u "com/example/gridwire/gridwire/store/ByteSpan"), (0, .methodref 17 20), (0, .nameAndType 5 21), (0, u "([BII)V"), (0, .methodref 17 23), (0, .nameAndType 24 25), (0, u "arraysHashCode"), (0, u "()I"), (3, u "law"), (0, u "(IIII)Z")] 6

def k1m0 : Method := { name := "<init>", desc := "()V", sig := { parameters := [], returnType := none }, accessFlags := 1, code := none }
def k1c1 : Code := { maxStack := 4, maxLocals := 5, code := method_2_code, exceptionTable := #[], attributes := #[] }
def k1m1 : Method := { name := "term", desc := "([B[IIII)I", sig := { parameters := [(.array .byte), (.array .int), .int, .int, .int], returnType := some .int }, accessFlags := 10, code := some k1c1 }
def k1c2 : Code := { maxStack := 6, maxLocals := 10, code := code, exceptionTable := #[], attributes := #[] }
def k1m2 : Method := { name := "law", desc := "(IIII)Z", sig := { parameters := [.int, .int, .int, .int], returnType := some .boolean }, accessFlags := 9, code := some k1c2 }
/-- com/example/gridwire/gridwire/store/ByteSpanArraysHashCodePinLaw -/
def k1 : Class := { plain "com/example/gridwire/gridwire/store/ByteSpanArraysHashCodePinLaw" (some 0) with
  accessFlags := 49
  interfaces := #[]
  cf := some (fileOf pool1 12 #[] #[{ accessFlags := 1, nameIndex := 5, descriptorIndex := 6, attributes := #[] }, { accessFlags := 10, nameIndex := 15, descriptorIndex := 16, attributes := #[] }, { accessFlags := 9, nameIndex := 29, descriptorIndex := 30, attributes := #[] }] 49 2 #[] #[])
  fields := #[]
  methods := #[k1m0, k1m1, k1m2]
  instanceTypes := #[]
  staticTypes := #[]
  resolved := Array.replicate 37 none
  statics := none }

def pool2 : Array CpInfo := pool [(1, .methodref 2 3), (0, .class_ 4), (0, .nameAndType 5 6), (0, u "java/lang/Object"), (0, u "<init>"), (0, u "()V"), (0, .class_ 8), (0, u "java/lang/Record")] 13

def k2c0 : Code := { maxStack := 1, maxLocals := 1, code := jdk_30_method_1_code, exceptionTable := #[], attributes := #[] }
def k2m0 : Method := { name := "<init>", desc := "()V", sig := { parameters := [], returnType := none }, accessFlags := 4, code := some k2c0 }
/-- java/lang/Record -/
def k2 : Class := { plain "java/lang/Record" (some 0) with
  accessFlags := 1057
  interfaces := #[]
  cf := some (fileOf pool2 7 #[] #[{ accessFlags := 4, nameIndex := 5, descriptorIndex := 6, attributes := #[] }] 1057 2 #[] #[])
  fields := #[]
  methods := #[k2m0]
  instanceTypes := #[]
  staticTypes := #[]
  resolved := Array.replicate 22 none
  statics := none }

def pool3 : Array CpInfo := pool [(1, .class_ 2), (0, u "java/lang/Comparable"), (0, .class_ 4), (0, u "java/lang/Object")] 7

/-- java/lang/Comparable -/
def k3 : Class := { plain "java/lang/Comparable" (some 0) with
  accessFlags := 1537
  interfaces := #[]
  cf := some (fileOf pool3 1 #[] #[] 1537 3 #[] #[])
  fields := #[]
  methods := #[]
  instanceTypes := #[]
  staticTypes := #[]
  resolved := Array.replicate 12 none
  statics := none }

def pool4 : Array CpInfo := pool [(1, .methodref 2 3), (0, .class_ 4), (0, .nameAndType 5 6), (0, u "java/lang/Record"), (0, u "<init>"), (0, u "()V"), (0, .methodref 8 9), (0, .class_ 10), (0, .nameAndType 11 12), (0, u "java/util/Objects"), (0, u "checkFromToIndex"), (0, u "(III)I"), (0, .fieldref 14 15), (0, .class_ 16), (0, .nameAndType 17 18), (0, u "com/example/gridwire/gridwire/store/ByteSpan"), (0, u "array"), (0, u "[B"), (0, .fieldref 14 20), (0, .nameAndType 21 22), (0, u "from"), (0, u "I"), (0, .fieldref 14 24), (0, .nameAndType 25 22), (0, u "to"), (2, u "([BII)V"), (15, .class_ 46), (1, u "com/example/gridwire/gridwire/store/ByteSpan$HashKey"), (24, .class_ 72), (0, u "java/lang/Comparable"), (4, u "()I"), (7, u "arraysHashCode")] 29

def k4c0 : Code := { maxStack := 3, maxLocals := 4, code := prog_80_method_1_code, exceptionTable := #[], attributes := #[] }
def k4m0 : Method := { name := "<init>", desc := "([BII)V", sig := { parameters := [(.array .byte), .int, .int], returnType := none }, accessFlags := 1, code := some k4c0 }
def k4c1 : Code := { maxStack := 3, maxLocals := 3, code := prog_80_method_8_code, exceptionTable := #[], attributes := #[] }
def k4m1 : Method := { name := "arraysHashCode", desc := "()I", sig := { parameters := [], returnType := some .int }, accessFlags := 1, code := some k4c1 }
/-- com/example/gridwire/gridwire/store/ByteSpan -/
def k4 : Class := { plain "com/example/gridwire/gridwire/store/ByteSpan" (some 2) with
  accessFlags := 49
  interfaces := #[3]
  cf := some (fileOf pool4 14 #[.nestMembers #[44]] #[{ accessFlags := 1, nameIndex := 5, descriptorIndex := 28, attributes := #[] }, { accessFlags := 1, nameIndex := 85, descriptorIndex := 77, attributes := #[] }] 49 2 #[71] #[{ accessFlags := 18, nameIndex := 17, descriptorIndex := 18, attributes := #[] }, { accessFlags := 18, nameIndex := 21, descriptorIndex := 22, attributes := #[] }, { accessFlags := 18, nameIndex := 25, descriptorIndex := 22, attributes := #[] }])
  fields := #[{ name := "array", type := (.array .byte), accessFlags := 18, slot := 0, constantValue := 0 }, { name := "from", type := .int, accessFlags := 18, slot := 1, constantValue := 0 }, { name := "to", type := .int, accessFlags := 18, slot := 2, constantValue := 0 }]
  methods := #[k4m0, k4m1]
  instanceTypes := #[(.array .byte), .int, .int]
  staticTypes := #[]
  resolved := Array.replicate 115 none
  statics := none }

def pool5 : Array CpInfo := pool [(2, .class_ 4), (1, u "java/lang/Object"), (0, u "<init>"), (0, u "()V"), (35, .class_ 44), (1, u "java/util/Objects"), (61, .class_ 108), (1, u "jdk/internal/util/Preconditions"), (2, .methodref 106 112), (0, .nameAndType 113 114), (0, u "checkFromToIndex"), (0, u "(IIILjava/util/function/BiFunction;)I"), (60, u "(III)I")] 8

def k5m0 : Method := { name := "<init>", desc := "()V", sig := { parameters := [], returnType := none }, accessFlags := 2, code := none }
def k5c1 : Code := { maxStack := 4, maxLocals := 3, code := jdk_31_method_18_code, exceptionTable := #[], attributes := #[] }
def k5m1 : Method := { name := "checkFromToIndex", desc := "(III)I", sig := { parameters := [.int, .int, .int], returnType := some .int }, accessFlags := 9, code := some k5c1 }
/-- java/util/Objects -/
def k5 : Class := { plain "java/util/Objects" (some 0) with
  accessFlags := 49
  interfaces := #[]
  cf := some (fileOf pool5 42 #[] #[{ accessFlags := 2, nameIndex := 5, descriptorIndex := 6, attributes := #[] }, { accessFlags := 9, nameIndex := 113, descriptorIndex := 175, attributes := #[] }] 49 2 #[] #[])
  fields := #[]
  methods := #[k5m0, k5m1]
  instanceTypes := #[]
  staticTypes := #[]
  resolved := Array.replicate 184 none
  statics := none }

def pool6 : Array CpInfo := pool [(2, .class_ 4), (1, u "java/lang/Object"), (0, u "<init>"), (0, u "()V"), (17, .class_ 26), (1, u "jdk/internal/util/Preconditions"), (20, u "checkFromToIndex"), (7, .class_ 56), (0, u "jdk/internal/util/Preconditions$4"), (57, .class_ 115), (0, u "jdk/internal/util/Preconditions$1"), (7, u "SIOOBE_FORMATTER"), (0, u "Ljava/util/function/BiFunction;"), (0, .class_ 126), (0, u "jdk/internal/util/Preconditions$2"), (3, u "AIOOBE_FORMATTER"), (0, .class_ 132), (0, u "jdk/internal/util/Preconditions$3"), (3, u "IOOBE_FORMATTER"), (46, u "(IIILjava/util/function/BiFunction;)I")] 10

def k6m0 : Method := { name := "<init>", desc := "()V", sig := { parameters := [], returnType := none }, accessFlags := 1, code := none }
def k6c1 : Code := { maxStack := 4, maxLocals := 4, code := jdk_41_method_12_code, exceptionTable := #[], attributes := #[] }
def k6m1 : Method := { name := "checkFromToIndex", desc := "(IIILjava/util/function/BiFunction;)I", sig := { parameters := [.int, .int, .int, (.object "java/util/function/BiFunction")], returnType := some .int }, accessFlags := 9, code := some k6c1 }
/-- jdk/internal/util/Preconditions -/
def k6 : Class := { plain "jdk/internal/util/Preconditions" (some 0) with
  accessFlags := 33
  interfaces := #[]
  cf := some (fileOf pool6 24 #[.nestMembers #[55, 131, 125, 114]] #[{ accessFlags := 1, nameIndex := 5, descriptorIndex := 6, attributes := #[] }, { accessFlags := 9, nameIndex := 47, descriptorIndex := 183, attributes := #[] }] 33 2 #[] #[{ accessFlags := 25, nameIndex := 123, descriptorIndex := 124, attributes := #[] }, { accessFlags := 25, nameIndex := 130, descriptorIndex := 124, attributes := #[] }, { accessFlags := 25, nameIndex := 136, descriptorIndex := 124, attributes := #[] }])
  fields := #[{ name := "SIOOBE_FORMATTER", type := (.object "java/util/function/BiFunction"), accessFlags := 25, slot := 0, constantValue := 0 }, { name := "AIOOBE_FORMATTER", type := (.object "java/util/function/BiFunction"), accessFlags := 25, slot := 1, constantValue := 0 }, { name := "IOOBE_FORMATTER", type := (.object "java/util/function/BiFunction"), accessFlags := 25, slot := 2, constantValue := 0 }]
  methods := #[k6m0, k6m1]
  instanceTypes := #[]
  staticTypes := #[(.object "java/util/function/BiFunction"), (.object "java/util/function/BiFunction"), (.object "java/util/function/BiFunction")]
  resolved := Array.replicate 194 none
  statics := none }

def pool7 : Array CpInfo := pool [(1, u "java/lang/Cloneable"), (0, .class_ 1), (0, u "java/lang/Object"), (0, .class_ 3)] 3

/-- java/lang/Cloneable -/
def k7 : Class := { plain "java/lang/Cloneable" (some 0) with
  accessFlags := 1537
  interfaces := #[]
  cf := some (fileOf pool7 2 #[] #[] 1537 4 #[] #[])
  fields := #[]
  methods := #[]
  instanceTypes := #[]
  staticTypes := #[]
  resolved := Array.replicate 8 none
  statics := none }

def pool8 : Array CpInfo := pool [(1, u "java/io/Serializable"), (0, .class_ 1), (0, u "java/lang/Object"), (0, .class_ 3)] 3

/-- java/io/Serializable -/
def k8 : Class := { plain "java/io/Serializable" (some 0) with
  accessFlags := 1537
  interfaces := #[]
  cf := some (fileOf pool8 2 #[] #[] 1537 4 #[] #[])
  fields := #[]
  methods := #[]
  instanceTypes := #[]
  staticTypes := #[]
  resolved := Array.replicate 8 none
  statics := none }

/-- the primitive byte -/
def k9 : Class := { plain "byte" none with kind := .primitive 'B', accessFlags := 0x411 }
/-- [B -/
def k10 : Class := { plain "[B" (some 0) with kind := .array 9 .byte, interfaces := #[7, 8], accessFlags := 1041 }

/-- the primitive int -/
def k11 : Class := { plain "int" none with kind := .primitive 'I', accessFlags := 0x411 }
/-- [I -/
def k12 : Class := { plain "[I" (some 0) with kind := .array 11 .int, interfaces := #[7, 8], accessFlags := 1041 }

def heap : Heap := #[]
def classes : Array Class := #[k0, k1, k2, k3, k4, k5, k6, k7, k8, k9, k10, k11, k12]
def interned : List (Array UInt16 × Addr) := []
def slotsUsed : Nat := 0
def theMethod : MethodId := ⟨1, 2⟩
def args0 : Array Value := #[.int 305419896, .int 513, .int 1, .int 3]
def aboutOver (below : List Frame) : State where
  vm := { classes := classes, interned := interned.toArray }
  heap := heap
  slotsUsed := slotsUsed
  threads := #[{ frames := .invoking theMethod args0 :: below }]
def below0 : List Frame := [.native { method := ⟨0, 0⟩, args := #[] }]
def about1 : State := aboutOver below0
def p0 : Program := .bare "" "" ""
def e0 : Env := launch0.env 0 0 0
theorem w_frames : about1.frames = Frame.invoking theMethod args0 :: below0 := rfl
set_option maxRecDepth 65536 in
theorem w_args : argsFit about1.vm theMethod args0 = true := by decide +kernel
set_option maxRecDepth 65536 in
theorem w_heap : heapFits about1 = true := by decide +kernel
set_option maxRecDepth 65536 in
theorem w_runnable : about1.curStatus? = some .runnable := by decide +kernel
set_option maxRecDepth 65536 in
theorem w_alone : about1.alone = true := by decide +kernel
set_option maxRecDepth 65536 in
theorem w_named : about1.methodNamed? x = some theMethod := by decide +kernel
set_option maxRecDepth 65536 in
theorem w_hears : about1.hears theMethod below0 = true := by decide +kernel
set_option maxRecDepth 65536 in
theorem w_ripe : about1.ripe theMethod args0 below0 = true := by decide +kernel
theorem w_running : about1.status = .running := rfl
set_option maxRecDepth 65536 in
theorem w_room : about1.hasRoom e0.platform room_1 = true :=
  launch0.hasRoom_least _ room_1 (by decide +kernel) (by decide +kernel) (by decide +kernel) (by decide +kernel) (by decide +kernel) (by decide +kernel)
theorem allAtoms_all (ts : List Jvm.Cond) (a : Array Jvm.Value) (st : Jvm.State) : (allAtoms ts).before a st = ts.all (fun c => c.before a st) := by
  induction ts with
  | nil => rfl
  | cons c t ih =>
    show (Jvm.Cond.and c (allAtoms t)).before a st = _
    rw [Jvm.Cond.before_and, ih, List.all_cons]
def words1 : List Jvm.Cond := Jvm.Cond.code x code maxLocals ret :: tables_1
/-- a 'code' word, met by the world's own term for the bytes: nothing is compared byte by byte -/
theorem code_word {y : MethodName} {bytes : ByteArray} {mx : Nat} {rt : Option FieldType} {a : Array Value} {s : State} {m : MethodId} {meth : Method} {c : Code} (h1 : s.methodNamed? y = some m) (h2 : s.vm.method? m = some meth) (h3 : meth.code = some c) (h4 : c.code = bytes)
    (h5 : (c.maxLocals == mx && c.exceptionTable.isEmpty && decide (c.maxStack ≤ mostOperands) && decide (meth.sig.returnType = rt) && !meth.locks && decide (parseMethodDescriptor y.desc = some meth.sig)) = true) : (Jvm.Cond.code y bytes mx rt).before a s = true := by
  simp only [Bool.and_eq_true, beq_iff_eq, Bool.not_eq_true', decide_eq_true_eq] at h5
  obtain ⟨⟨⟨⟨⟨g1, g2⟩, g3⟩, g4⟩, g5⟩, g6⟩ := h5
  simp [Cond.before, Cond.holds, Cond.value, h1, h2, h3, h4, g1, g2, g3, g4, g5, g6]
def isCode : Jvm.Cond → Bool
  | .code _ _ _ _ => true
  | _ => false
theorem all_split {L : List Jvm.Cond} {P : Jvm.Cond → Bool} (h1 : L.all (fun c => isCode c || P c) = true) (h2 : ∀ c ∈ L.filter isCode, P c = true) : L.all P = true := by
  refine List.all_eq_true.mpr fun c hc => ?_
  have h := List.all_eq_true.mp h1 c hc
  rcases Bool.eq_false_or_eq_true (isCode c) with hi | hi
  · exact h2 c (List.mem_filter.mpr ⟨hc, hi⟩)
  · simpa [hi] using h
set_option maxRecDepth 65536 in
theorem w_c0 : (Jvm.Cond.code x code maxLocals ret).before args0 about1 = true := code_word (m := ⟨1, 2⟩) (meth := k1m2) (c := k1c2) (by decide +kernel) rfl rfl rfl (by decide +kernel)
set_option maxRecDepth 65536 in
theorem w_c1 : (Jvm.Cond.code ({ cls := "com/example/gridwire/gridwire/store/ByteSpanArraysHashCodePinLaw", name := "term", desc := "([B[IIII)I" } : Jvm.MethodName) method_2_code (5 : Nat) (Option.some Jvm.ClassFile.FieldType.int)).before args0 about1 = true := code_word (m := ⟨1, 1⟩) (meth := k1m1) (c := k1c1) (by decide +kernel) rfl rfl rfl (by decide +kernel)
set_option maxRecDepth 65536 in
theorem w_c2 : (Jvm.Cond.code ({ cls := "com/example/gridwire/gridwire/store/ByteSpan", name := "<init>", desc := "([BII)V" } : Jvm.MethodName) prog_80_method_1_code (4 : Nat) (Option.none : Option Jvm.ClassFile.FieldType)).before args0 about1 = true := code_word (m := ⟨4, 0⟩) (meth := k4m0) (c := k4c0) (by decide +kernel) rfl rfl rfl (by decide +kernel)
set_option maxRecDepth 65536 in
theorem w_c3 : (Jvm.Cond.code ({ cls := "java/lang/Record", name := "<init>", desc := "()V" } : Jvm.MethodName) jdk_30_method_1_code (1 : Nat) (Option.none : Option Jvm.ClassFile.FieldType)).before args0 about1 = true := code_word (m := ⟨2, 0⟩) (meth := k2m0) (c := k2c0) (by decide +kernel) rfl rfl rfl (by decide +kernel)
set_option maxRecDepth 65536 in
theorem w_c4 : (Jvm.Cond.code ({ cls := "java/lang/Object", name := "<init>", desc := "()V" } : Jvm.MethodName) object_method_1_code (1 : Nat) (Option.none : Option Jvm.ClassFile.FieldType)).before args0 about1 = true := code_word (m := ⟨0, 0⟩) (meth := k0m0) (c := k0c0) (by decide +kernel) rfl rfl rfl (by decide +kernel)
set_option maxRecDepth 65536 in
theorem w_c5 : (Jvm.Cond.code ({ cls := "java/util/Objects", name := "checkFromToIndex", desc := "(III)I" } : Jvm.MethodName) jdk_31_method_18_code (3 : Nat) (Option.some Jvm.ClassFile.FieldType.int)).before args0 about1 = true := code_word (m := ⟨5, 1⟩) (meth := k5m1) (c := k5c1) (by decide +kernel) rfl rfl rfl (by decide +kernel)
set_option maxRecDepth 65536 in
theorem w_c6 : (Jvm.Cond.code ({ cls := "jdk/internal/util/Preconditions", name := "checkFromToIndex", desc := "(IIILjava/util/function/BiFunction;)I" } : Jvm.MethodName) jdk_41_method_12_code (4 : Nat) (Option.some Jvm.ClassFile.FieldType.int)).before args0 about1 = true := code_word (m := ⟨6, 1⟩) (meth := k6m1) (c := k6c1) (by decide +kernel) rfl rfl rfl (by decide +kernel)
set_option maxRecDepth 65536 in
theorem w_c7 : (Jvm.Cond.code ({ cls := "com/example/gridwire/gridwire/store/ByteSpan", name := "arraysHashCode", desc := "()I" } : Jvm.MethodName) prog_80_method_8_code (3 : Nat) (Option.some Jvm.ClassFile.FieldType.int)).before args0 about1 = true := code_word (m := ⟨4, 1⟩) (meth := k4m1) (c := k4c1) (by decide +kernel) rfl rfl rfl (by decide +kernel)
def codes1 : List Jvm.Cond := [Jvm.Cond.code x code maxLocals ret, Jvm.Cond.code ({ cls := "com/example/gridwire/gridwire/store/ByteSpanArraysHashCodePinLaw", name := "term", desc := "([B[IIII)I" } : Jvm.MethodName) method_2_code (5 : Nat) (Option.some Jvm.ClassFile.FieldType.int), Jvm.Cond.code ({ cls := "com/example/gridwire/gridwire/store/ByteSpan", name := "<init>", desc := "([BII)V" } : Jvm.MethodName) prog_80_method_1_code (4 : Nat) (Option.none : Option Jvm.ClassFile.FieldType), Jvm.Cond.code ({ cls := "java/lang/Record", name := "<init>", desc := "()V" } : Jvm.MethodName) jdk_30_method_1_code (1 : Nat) (Option.none : Option Jvm.ClassFile.FieldType), Jvm.Cond.code ({ cls := "java/lang/Object", name := "<init>", desc := "()V" } : Jvm.MethodName) object_method_1_code (1 : Nat) (Option.none : Option Jvm.ClassFile.FieldType), Jvm.Cond.code ({ cls := "java/util/Objects", name := "checkFromToIndex", desc := "(III)I" } : Jvm.MethodName) jdk_31_method_18_code (3 : Nat) (Option.some Jvm.ClassFile.FieldType.int), Jvm.Cond.code ({ cls := "jdk/internal/util/Preconditions", name := "checkFromToIndex", desc := "(IIILjava/util/function/BiFunction;)I" } : Jvm.MethodName) jdk_41_method_12_code (4 : Nat) (Option.some Jvm.ClassFile.FieldType.int), Jvm.Cond.code ({ cls := "com/example/gridwire/gridwire/store/ByteSpan", name := "arraysHashCode", desc := "()I" } : Jvm.MethodName) prog_80_method_8_code (3 : Nat) (Option.some Jvm.ClassFile.FieldType.int)]
set_option maxRecDepth 65536 in
theorem codes_eq : words1.filter isCode = codes1 := rfl
theorem w_codes : ∀ c ∈ words1.filter isCode, c.before args0 about1 = true := by
  rw [codes_eq]
  intro c hc
  simp only [codes1, List.mem_cons, List.not_mem_nil, or_false] at hc
  rcases hc with rfl | rfl | rfl | rfl | rfl | rfl | rfl | rfl
  · exact w_c0
  · exact w_c1
  · exact w_c2
  · exact w_c3
  · exact w_c4
  · exact w_c5
  · exact w_c6
  · exact w_c7
set_option maxRecDepth 65536 in
theorem w_t1 : (words1.take 24).all (fun c => isCode c || c.before args0 about1) = true := by decide +kernel
set_option maxRecDepth 65536 in
theorem w_t2 : (words1.drop 24).all (fun c => isCode c || c.before args0 about1) = true := by decide +kernel
theorem w_tables : (allAtoms (Jvm.Cond.code x code maxLocals ret :: tables_1)).before args0 about1 = true := by
  rw [allAtoms_all]
  show words1.all (fun c => c.before args0 about1) = true
  refine all_split ?_ w_codes
  rw [← List.take_append_drop 24 words1, List.all_append, w_t1, w_t2]
  rfl
set_option maxRecDepth 65536 in
theorem w_case : (Jvm.Cond.and given_1 narrow_1).before args0 about1 = true := by decide +kernel
theorem w_applies : (headSpec (Jvm.Cond.code x code maxLocals ret :: tables_1) room_1).applies x e0.platform about1 = true :=
  (Spec.applies_iff w_frames).mpr ⟨w_running, w_runnable, w_alone, w_named, w_hears, w_ripe, w_room, w_tables⟩
theorem atStart : AtStart classFile x code maxLocals ret World_1 tables_1 room_1 Calls_1 rest_1 Pre_1 launch0 p0 e0 about1 theMethod args0 below0 :=
  ⟨lists_1, trivial, launch0.admits_env _ _ _, launch0.least_env, fairChoices_fair.cas, fairChoices_fair.clock, w_frames, w_args, w_heap, w_applies, trivial, trivial, w_case⟩
end start1
theorem witness_1 : WitnessClaimed_1 := ⟨start1.p0, start1.e0, start1.about1, start1.theMethod, start1.args0, start1.below0, start1.atStart⟩
end Jvm.Pilot.@@N@@
