import JvmDerived
import JvmDerived.Pilot.@@N@@Statement
import JvmDerived.Pilot.@@N@@Code
set_option linter.unusedVariables false
set_option linter.unusedSimpArgs false
namespace Jvm.Pilot.@@N@@
open Jvm Jvm.ClassFile Sem Op Lib Jvm.Free Jvm.Stand Jvm.LawKit Jvm.RoadKit Bundle Jvm.Pilot.@@N@@.Jvm.D
section Own
variable {p : Program} {l : Launch} {e : Env} {R : Room} {s : State} {m : MethodId} {args : Array Value} {below : List Frame} {meth : Method} {c : Code} {T : State} {locs : List Loc} {cells slots : Nat} {Z : State} {a0 : Array Value} {h h' : Heap}
theorem own_hb {c : ClassFile.Code} {code : ByteArray} (h : c.code = code) {pc : Nat} {r : Except ClassFile.DecodeError (ClassFile.Instr × Nat)} (h2 : ClassFile.decode code pc = r) : ClassFile.decode c.code pc = r := h ▸ h2
/-- from S the run comes to an end of the method of which QQ holds -/
def own_Go (p : Program) (e : Env) (below : List Frame) (S : State) (QQ : Outcome → State → Prop) : Prop :=
  ∃ s₂ o, Steps p.tables e below S s₂ ∧ s₂.status = .running ∧ Ended s₂ below o ∧ QQ o s₂
theorem own_Go.of {S S' : State} {QQ : Outcome → State → Prop} (h : ∀ t, Steps p.tables e below S' t → Steps p.tables e below S t) (g : own_Go p e below S' QQ) : own_Go p e below S QQ := by
  obtain ⟨a, b, h1, h2⟩ := g
  exact ⟨a, b, h _ h1, h2⟩
/-- how a walked body ends: it returns v, with Q of the value, the heap and the places written -/
def own_End (s : State) (Q : Option Value → Heap → List Loc → Prop) (C K : Nat) : Outcome → State → Prop :=
  fun o U' => ∃ v L, o = .returned v ∧ Q v U'.heap L ∧ FrameEnd s o U' L C K
/-- the contract of a body, as RoadKit.backOf takes it -/
abbrev own_Met (l : Launch) (Z : State) (h0 : Heap) (y : MethodName) (bytes : ByteArray) (maxL : Nat) (ret : Option FieldType) (ws : List Jvm.Cond) (rm : Room) (as' : Array Value) (Q : Option Value → Heap → List Loc → Prop) : Prop :=
  MetFree l y (head1 (Jvm.Cond.code y bytes maxL ret :: ws) rm) (fun a U => a = as' ∧ Z.Warmed39 U.vm ∧ U.heap = h0) (fun _ _ _ _ _ => True) (fun _ U o U' => ∃ v L, o = .returned v ∧ Q v U'.heap L ∧ FrameEnd U o U' L rm.cells rm.slots)
theorem own_enter {h0 : Heap} {y : MethodName} {bytes : ByteArray} {maxL : Nat} {ret : Option FieldType} {ws : List Jvm.Cond} {rm : Room} {as' : Array Value} {Q : Option Value → Heap → List Loc → Prop} (hpl : plainFor y = true)
    (body : ∀ (p : Program) (e : Env) (s : State) (m : MethodId) (below : List Frame) (meth : Method) (c : Code) (T0 : State), Stand p l e rm s m as' below meth c T0 [] 0 0 → p.tables.exec = Jvm.exec → c.code = bytes → c.maxLocals = maxL → meth.sig.returnType = ret → meth.locks = false → s.vm.findClass y.cls = some m.cls → meth.name = y.name → Z.Warmed39 s.vm → T0.heap = h0 →
      own_Go p e below (T0.setTop (entryFrame m as' maxL)) (own_End s Q rm.cells rm.slots)) : own_Met l Z h0 y bytes maxL ret ws rm as' Q := by
  refine MetFree.of_bodySF hpl hisR ?_
  intro p e s m args below meth c s₁ Bd hml0 hP hK
  obtain ⟨rfl, hZ, hh⟩ := hP
  exact body p e s m below meth c s₁ (Stand.of_body Bd) Bd.exec Bd.bytes hml0 Bd.returns Bd.notSynchronized (findClass_of_methodNamed Bd.named) (name_of_methodNamed Bd.named Bd.method).1 hZ (by rw [← hh, Bd.state]; rfl)
theorem own_mono (X : Stand p l e R s m args below meth c T locs cells slots) {c' k' : Nat} (hc : cells ≤ c') (hk : slots ≤ k') : Stand p l e R s m args below meth c T locs c' k' :=
  ⟨X.admits, X.cas, X.clock, X.frames, X.room, X.hears, X.method, X.code, X.here, X.tail, X.warmed, X.limits, X.bytes, X.same.mono hc hk⟩
theorem own_leave (X : Stand p l e R s m args below meth c T locs cells slots) (hlk : meth.locks = false) {v : Option Value} {Q : Option Value → Heap → List Loc → Prop} {C K : Nat} {g : JFrame} (hv : meth.sig.returnType = none → v = none)
    (st : ∀ fs, (∀ (f : JFrame) (acts : List Action), f.method = m → f.locked = none → f.entered = [] → (doReturn e (T.setTop f) acts v).1 = T.setFrames fs) → Steps p.tables e below (T.setTop g) (T.setFrames fs))
    (eT : T.heap = h) (hQ : Q v h locs) (hc : cells ≤ C) (hk : slots ≤ K) : own_Go p e below (T.setTop g) (own_End s Q C K) := by
  obtain ⟨fs, hr, hrun, hended, hW, hsame⟩ := X.leave (v := v) hv hlk
  subst eT
  exact ⟨_, _, st fs hr, hrun, hended, v, locs, rfl, hQ, ⟨_, rfl⟩, hW, hsame.mono hc hk⟩
theorem own_retI (X : Stand p l e R s m args below meth c T locs cells slots) (hx : p.tables.exec = Jvm.exec) (hlk : meth.locks = false) {pc : Nat} {Ls : Array Slot} {z : Int32} {rest : List Value} {Q : Option Value → Heap → List Loc → Prop} {C K : Nat} (hret : meth.sig.returnType = some .int) (hd : decode c.code pc = .ok (.ireturn, 1))
    (eT : T.heap = h) (hQ : Q (some (.int z)) h locs) (hc : cells ≤ C) (hk : slots ≤ K) : own_Go p e below (T.setTop (mkF m pc Ls (.int z :: rest))) (own_End s Q C K) := by
  refine own_leave X hlk (fun q => by rw [hret] at q; cases q) (fun fs hl => ?_) eT hQ hc hk
  have hm' : T.vm.method? m = some meth := X.method'
  have hn : narrow .int (.int z) = .int z := rfl
  show Steps p.tables e below (T.setTop { method := m, pc := pc, locals := Ls, stack := _ :: rest, locked := none }) _
  jvm_step X.here [X.here.top, hx, hd, hm', hret, hn]
  first | (intro acts; rw [hl _ acts rfl rfl rfl]) | rw [hl _ _ rfl rfl rfl]
  exact Steps.refl _
theorem own_retN (X : Stand p l e R s m args below meth c T locs cells slots) (hx : p.tables.exec = Jvm.exec) (hlk : meth.locks = false) {pc : Nat} {Ls : Array Slot} {z : Int32} {t : FieldType} {rest : List Value} {Q : Option Value → Heap → List Loc → Prop} {C K : Nat} (hret : meth.sig.returnType = some t) (ht : t = .boolean ∨ t = .byte ∨ t = .char ∨ t = .short) (hd : decode c.code pc = .ok (.ireturn, 1))
    (eT : T.heap = h) (hQ : Q (some (.int (nar t z))) h locs) (hc : cells ≤ C) (hk : slots ≤ K) : own_Go p e below (T.setTop (mkF m pc Ls (.int z :: rest))) (own_End s Q C K) :=
  own_leave X hlk (fun q => by rw [hret] at q; cases q) (fun fs hl => retN X hx hret ht hd hl) eT hQ hc hk
theorem own_retV (X : Stand p l e R s m args below meth c T locs cells slots) (hx : p.tables.exec = Jvm.exec) (hlk : meth.locks = false) {pc : Nat} {Ls : Array Slot} {Q : Option Value → Heap → List Loc → Prop} {C K : Nat} (hret : meth.sig.returnType = none) (hd : decode c.code pc = .ok (.return_, 1))
    (eT : T.heap = h) (hQ : Q none h locs) (hc : cells ≤ C) (hk : slots ≤ K) : own_Go p e below (T.setTop (mkF m pc Ls [])) (own_End s Q C K) :=
  own_leave X hlk (fun _ => rfl) (fun fs hl => X.returnOut hx hret hd hl) eT hQ hc hk
theorem own_retJ (X : Stand p l e R s m args below meth c T locs cells slots) (hx : p.tables.exec = Jvm.exec) (hlk : meth.locks = false) {pc : Nat} {Ls : Array Slot} {z : Int64} {Q : Option Value → Heap → List Loc → Prop} {C K : Nat} (hret : meth.sig.returnType = some .long) (hd : decode c.code pc = .ok (.lreturn, 1))
    (eT : T.heap = h) (hQ : Q (some (.long z)) h locs) (hc : cells ≤ C) (hk : slots ≤ K) : own_Go p e below (T.setTop (mkF m pc Ls [.long z])) (own_End s Q C K) :=
  own_leave X hlk (fun q => by rw [hret] at q; cases q) (fun fs hl => X.lreturnOut hx hret hd hl) eT hQ hc hk
theorem own_retA (X : Stand p l e R s m args below meth c T locs cells slots) (hx : p.tables.exec = Jvm.exec) (hlk : meth.locks = false) {pc : Nat} {Ls : Array Slot} {v : Value} {t : FieldType} {rest : List Value} {Q : Option Value → Heap → List Loc → Prop} {C K : Nat} (hret : meth.sig.returnType = some t) (ht : t.isReference = true) (hv : v.isRef = true) (hd : decode c.code pc = .ok (.areturn, 1))
    (eT : T.heap = h) (hQ : Q (some v) h locs) (hc : cells ≤ C) (hk : slots ≤ K) : own_Go p e below (T.setTop (mkF m pc Ls (v :: rest))) (own_End s Q C K) := by
  refine own_leave X hlk (fun q => by rw [hret] at q; cases q) (fun fs hl => ?_) eT hQ hc hk
  have hm' : T.vm.method? m = some meth := X.method'
  show Steps p.tables e below (T.setTop { method := m, pc := pc, locals := Ls, stack := _ :: rest, locked := none }) _
  jvm_step X.here [X.here.top, hx, hd, hm', hret, ht, hv]
  first | (intro acts; rw [hl _ acts rfl rfl rfl]) | rw [hl _ _ rfl rfl rfl]
  exact Steps.refl _
/-! an array whose place i holds f i -/
def own_Ar (Z : State) (h : Heap) (a : Addr) (ty : FieldType) (n : Nat) (f : Nat → Value) : Prop :=
  n < 2 ^ 31 ∧ ∃ c : Cell, Arr Z h a c ty ∧ c.slots.size = n ∧ ∀ i, i < n → c.slots[i]? = some (f i) ∧ fits ty (f i) = true
def own_up (f : Nat → Value) (k : Nat) (v : Value) : Nat → Value := fun i => if i = k then v else f i
def own_I (g : Nat → Int32) : Nat → Value := fun j => .int (g j)
def own_set (g : Nat → Int32) (k : Nat) (x : Int32) : Nat → Int32 := fun j => if j = k then x else g j
theorem own_upI {g : Nat → Int32} {k : Nat} {x : Int32} : own_up (own_I g) k (.int x) = own_I (own_set g k x) := by
  funext j
  unfold own_up own_I own_set
  by_cases q : j = k
  · rw [if_pos q, if_pos q]
  · rw [if_neg q, if_neg q]
section Arrays
variable {a b : Addr} {ty : FieldType} {n k : Nat} {f : Nat → Value} {v : Value} {ws : List Addr} {sl : Nat} {j : Int32}
theorem own_Ar.lt (F : own_Ar Z h a ty n f) : a < h.size := by obtain ⟨_, c, A, _⟩ := F; exact A.lt
theorem own_Ar.ext (F : own_Ar Z h a ty n f) (E : Ext h h') : own_Ar Z h' a ty n f := by obtain ⟨q, c, A, r⟩ := F; exact ⟨q, c, A.ext E, r⟩
theorem own_Ar.other (F : own_Ar Z h b ty n f) (W : Wr h h' a sl v) (q : b ≠ a) : own_Ar Z h' b ty n f := by obtain ⟨q0, c, A, r⟩ := F; exact ⟨q0, c, A.other W q, r⟩
theorem own_Ar.keep (F : own_Ar Z h a ty n f) (K : Keep h h' ws) (q : a ∉ ws) : own_Ar Z h' a ty n f := by obtain ⟨q0, c, A, r⟩ := F; exact ⟨q0, c, ⟨K.2.1 a c A.1 q, A.2⟩, r⟩
theorem own_Ar.eqv {g : Nat → Value} (F : own_Ar Z h a ty n f) (q : ∀ i, i < n → f i = g i) : own_Ar Z h a ty n g := by
  obtain ⟨q0, c, A, r1, r2⟩ := F; exact ⟨q0, c, A, r1, fun i hi => by rw [← q i hi]; exact r2 i hi⟩
theorem own_Ar.eqvI {g g' : Nat → Int32} (F : own_Ar Z h a ty n (own_I g)) (q : ∀ i, i < n → g i = g' i) : own_Ar Z h a ty n (own_I g') := F.eqv fun i hi => by show Value.int _ = Value.int _; rw [q i hi]
theorem own_clamp (hk : k < 2 ^ 31) : (Int32.ofNat k).toNatClampNeg = k ∧ ¬ Int32.ofNat k < 0 := by
  have e : (Int32.ofNat k).toInt = (k : Int) := Int32.toInt_ofNat_of_lt hk
  refine ⟨?_, ?_⟩
  · show (Int32.ofNat k).toInt.toNat = k
    rw [e]; rfl
  · rw [Int32.lt_iff_toInt_lt, e]
    show ¬ ((k : Int) < 0)
    omega
theorem own_inb {cl : Cell} (S : cl.slots.size = n) (hn : n < 2 ^ 31) (e : j = Int32.ofNat k) (hk : k < n) : ¬ (j < 0 ∨ cl.slots.size ≤ j.toNatClampNeg) := by
  subst e
  obtain ⟨e1, e2⟩ := own_clamp (k := k) (by omega)
  rw [e1, S]
  rintro (q | q)
  · exact e2 q
  · omega
theorem own_Ar.get (F : own_Ar Z h a ty n f) (q : j = Int32.ofNat k ∧ k < n) : ∃ cl : Cell, Arr Z h a cl ty ∧ ¬ (j < 0 ∨ cl.slots.size ≤ j.toNatClampNeg) ∧ cl.slots[j.toNatClampNeg]? = some (f k) := by
  obtain ⟨hn, c, A, S, H⟩ := F
  refine ⟨c, A, own_inb S hn q.1 q.2, ?_⟩
  rw [q.1, (own_clamp (k := k) (by omega)).1]
  exact (H k q.2).1
theorem own_Ar.len (F : own_Ar Z h a ty n f) : ∃ cl : Cell, Arr Z h a cl ty ∧ cl.slots.size.toInt32 = Int32.ofNat n := by
  obtain ⟨hn, c, A, S, H⟩ := F
  refine ⟨c, A, ?_⟩
  rw [S]
theorem own_Ar.put (F : own_Ar Z h a ty n f) (q : j = Int32.ofNat k ∧ k < n) : ∃ cl : Cell, Arr Z h a cl ty ∧ ¬ (j < 0 ∨ cl.slots.size ≤ j.toNatClampNeg) ∧ ∀ {v : Value} {h' : Heap}, fits ty v = true → Wr h h' a j.toNatClampNeg v → own_Ar Z h' a ty n (own_up f k v) := by
  obtain ⟨hn, c, A, S, H⟩ := F
  refine ⟨c, A, own_inb S hn q.1 q.2, fun {v h'} hv W => ⟨hn, _, A.same W, by rw [sz_set]; exact S, fun i hi => ?_⟩⟩
  rw [q.1, (own_clamp (k := k) (by omega)).1]
  by_cases u : i = k
  · subst u
    simp [own_up, Cell.setSlot, S, hi, hv]
  · have u' : ¬ k = i := fun z => u z.symm
    simp only [own_up, u, if_false, Cell.setSlot, Array.getElem?_setIfInBounds, u']
    exact H i hi
theorem own_newP (X : Stand p l e R s m args below meth c T locs cells slots) (hx : p.tables.exec = Jvm.exec) (hZ : Z.Warmed39 s.vm) {aty : ArrayType} (w : (Cond.arrayClass (newarray.typeOf aty)).before a0 Z = true) (eT : T.heap = h) {g : JFrame} (hg : g.method = m) (hd : decode c.code g.pc = .ok (.newarray aty, 2)) {z : Int32} {rest : List Value} (hs : g.stack = .int z :: rest)
    {n cap : Nat} (hz : z = Int32.ofNat n) (hn : n ≤ cap) (hb : cap * 8 ≤ 536870912) (hc : cells + 1 ≤ R.cells) (hl : slots + cap ≤ R.slots) :
    ∃ T' h', Stand p l e R s m args below meth c T' locs (cells + 1) (slots + cap) ∧ T'.heap = h' ∧ Ext h h' ∧ own_Ar Z h' h.size (newarray.typeOf aty) n (fun _ => defaultValue (newarray.typeOf aty)) ∧
      ∀ target, Steps p.tables e below (T'.setTop { g with pc := g.pc + 2, stack := .ref h.size :: rest }) target → Steps p.tables e below (T.setTop g) target := by
  obtain ⟨e1, e2⟩ := own_clamp (k := n) (by omega)
  subst hz
  obtain ⟨T', h', cA, X', e', E, A, st⟩ := newP X hx hZ w eT hg hd hs e2 (cap := cap) (by rw [e1]; exact hn) hb hc hl
  refine ⟨T', h', X', e', E, ⟨by omega, _, A, by rw [sz_new, e1], fun i hi => ⟨?_, by cases aty <;> rfl⟩⟩, st⟩
  simp [newA, e1, hi]
end Arrays
theorem own_st1 {l : Array Slot} {i : Nat} {v : Value} {o : Slot} (hold : l[i]? = some o) (ho : o = .unset ∨ ∃ w, o = .val w ∧ w.category = 1) (hv : v.category = 1) : storeLocals l i v = some (l.setIfInBounds i (.val v)) := XS.store1 hold ho hv
/-- the cell at x stands as it stood -/
def own_Kx (h h' : Heap) (x : Addr) : Prop := h.size ≤ h'.size ∧ ∀ c : Cell, h[x]? = some c → h'[x]? = some c
section Kx
variable {x a : Addr} {h2 : Heap} {sl : Nat} {v : Value} {ws : List Addr}
theorem own_Kx.refl : own_Kx h h x := ⟨Nat.le_refl _, fun _ q => q⟩
theorem own_Kx.ext (K : own_Kx h h' x) (E : Ext h' h2) : own_Kx h h2 x := ⟨Nat.le_trans K.1 E.1, fun c q => E.2 _ _ (K.2 c q)⟩
theorem own_Kx.keep (K : own_Kx h h' x) (K' : Keep h' h2 ws) (q : x ∉ ws) : own_Kx h h2 x := ⟨Nat.le_trans K.1 K'.1, fun c r => K'.2.1 _ _ (K.2 c r) q⟩
theorem own_Kx.wr (K : own_Kx h h' x) (W : Wr h' h2 a sl v) (q : x ≠ a) : own_Kx h h2 x := K.keep (Keep.of_wr W) (ninS q nin0)
theorem own_Kx.trans (K : own_Kx h h' x) (K' : own_Kx h' h2 x) : own_Kx h h2 x := ⟨Nat.le_trans K.1 K'.1, fun c r => K'.2 _ (K.2 c r)⟩
theorem own_Ar.kx {ty : FieldType} {n : Nat} {f : Nat → Value} (F : own_Ar Z h x ty n f) (K : own_Kx h h' x) : own_Ar Z h' x ty n f := by obtain ⟨q0, c, A, r⟩ := F; exact ⟨q0, c, ⟨K.2 c A.1, A.2⟩, r⟩
def own_Lt (h : Heap) (x : Addr) : Prop := x < h.size
theorem own_Lt.lt (q : own_Lt h x) : x < h.size := q
theorem own_Lt.ext (q : own_Lt h x) (E : Ext h h') : own_Lt h' x := Nat.lt_of_lt_of_le q E.1
theorem own_Lt.keep (q : own_Lt h x) (K : Keep h h' ws) : own_Lt h' x := Nat.lt_of_lt_of_le q K.1
theorem own_Lt.wr (q : own_Lt h x) (W : Wr h h' a sl v) : own_Lt h' x := q.keep (Keep.of_wr W)
theorem own_Lt.le (q : own_Lt h x) (K : h.size ≤ h'.size) : own_Lt h' x := Nat.lt_of_lt_of_le q K
theorem own_Lt.kx {y : Addr} (q : own_Lt h x) (K : own_Kx h h' y) : own_Lt h' x := Nat.lt_of_lt_of_le q K.1
end Kx
/-! numbers: small naturals as ints -/
theorem own_toInt {a : Nat} (ha : a < 2 ^ 31) : (Int32.ofNat a).toInt = (a : Int) := Int32.toInt_ofNat_of_lt ha
theorem own_mask (x : Int32) (m : Nat) : ∃ k : Nat, k ≤ m ∧ (x &&& Int32.ofNat m) = Int32.ofNat k := by
  refine ⟨(x.toBitVec.toNat &&& (m % 2 ^ 32)), Nat.le_trans Nat.and_le_right (Nat.mod_le _ _), ?_⟩
  apply Int32.toBitVec_inj.mp
  apply BitVec.eq_of_toNat_eq
  rw [Int32.toBitVec_and, BitVec.toNat_and]
  show _ &&& (BitVec.ofNat 32 m).toNat = (BitVec.ofNat 32 _).toNat
  rw [BitVec.toNat_ofNat, BitVec.toNat_ofNat]
  rw [Nat.mod_eq_of_lt (a := _ &&& _)]
  exact Nat.lt_of_le_of_lt Nat.and_le_right (Nat.mod_lt _ (by decide))
theorem own_ltN {a b : Nat} (ha : a < 2 ^ 31) (hb : b < 2 ^ 31) : Int32.ofNat a < Int32.ofNat b ↔ a < b := by
  rw [Int32.lt_iff_toInt_lt, own_toInt ha, own_toInt hb]; omega
theorem own_eqN' {a b : Nat} (h : a = b) : Int32.ofNat a = Int32.ofNat b := by rw [h]
theorem own_eqN {a b : Nat} (ha : a < 2 ^ 31) (hb : b < 2 ^ 31) : Int32.ofNat a = Int32.ofNat b ↔ a = b := by
  constructor
  · intro h
    have h2 := congrArg Int32.toInt h
    rw [own_toInt ha, own_toInt hb] at h2; omega
  · exact own_eqN'
theorem own_addN (a b : Nat) : Int32.ofNat a + Int32.ofNat b = Int32.ofNat (a + b) := (Int32.ofNat_add a b).symm
theorem own_subN {a b : Nat} (h : b ≤ a) : Int32.ofNat a - Int32.ofNat b = Int32.ofNat (a - b) := by
  have h2 : Int32.ofNat a = Int32.ofNat (a - b) + Int32.ofNat b := by rw [own_addN]; congr 1; omega
  rw [h2, Int32.add_sub_cancel]
theorem own_nzN {a : Nat} (h0 : 0 < a) (ha : a < 2 ^ 31) : Int32.ofNat a ≠ (0 : Int32) := by
  intro h
  have h2 : Int32.ofNat a = Int32.ofNat 0 := h
  rw [own_eqN ha (by decide)] at h2; omega
theorem own_remN {a b : Nat} (ha : a < 2 ^ 31) (hb : b < 2 ^ 31) : (Int32.ofNat a - (Int32.ofNat a / Int32.ofNat b) * Int32.ofNat b) = Int32.ofNat (a % b) := by
  apply Int32.toInt_inj.mp
  have hm : a % b < 2 ^ 31 := Nat.lt_of_le_of_lt (Nat.mod_le _ _) ha
  rw [rem_toInt, own_toInt ha, own_toInt hb, own_toInt hm]
  exact (Int.ofNat_tmod a b).symm
theorem own_bm (x : Int) (h1 : -2147483648 ≤ x) (h2 : x < 2147483648) : x.bmod (2 ^ 32) = x := Int.bmod_eq_of_le (by omega) (by omega)
theorem own_bm64 (x : Int) (h1 : -9223372036854775808 ≤ x) (h2 : x < 9223372036854775808) : x.bmod (2 ^ 64) = x := Int.bmod_eq_of_le (by omega) (by omega)
end Own

theorem own_Ar.arv {Z : State} {h : Heap} {a : Addr} {ty : FieldType} {n : Nat} {f : Nat → Value} (F : own_Ar Z h a ty n f) (d : Value) : ∃ k, Arv Z h a k ty (Int32.ofNat n) ((List.range n).map f) d := by
  obtain ⟨hn, c, A, S, H⟩ := F
  obtain ⟨e1, e2⟩ := own_clamp (k := n) hn
  have gd : ∀ i, i < n → ((List.range n).map f).getD i d = f i := fun i hi => by
    rw [List.getD_eq_getElem?_getD, List.getElem?_map, List.getElem?_range hi]; rfl
  refine ⟨c.cls, c, A, rfl, by rw [S, e1], e2, fun i hi => ?_, fun i hi => ?_⟩
  · rw [S] at hi; rw [gd i hi]; exact (H i hi).1
  · rw [S] at hi; rw [gd i hi]; exact (H i hi).2
theorem own_Ar.of_arv {Z : State} {h : Heap} {a : Addr} {k : ClassId} {ty : FieldType} {n : Nat} {vs : List Value} {d : Value} {f : Nat → Value} (F : Arv Z h a k ty (Int32.ofNat n) vs d) (hn : n < 2 ^ 31) (q : ∀ i, i < n → vs.getD i d = f i) : own_Ar Z h a ty n f := by
  obtain ⟨c, A, -, S, -, H, G⟩ := F
  rw [(own_clamp (k := n) hn).1] at S
  exact ⟨hn, c, A, S, fun i hi => by rw [← q i hi]; exact ⟨H i (by rw [S]; exact hi), G i (by rw [S]; exact hi)⟩⟩
/-- System.arraycopy of the first k places of an array into another of the same plain kind -/
theorem own_copy {p : Program} {l : Launch} {e : Env} {R : Room} {s : State} {m : MethodId} {args : Array Value} {below : List Frame} {meth : Method} {c : Code} {T : State} {locs : List Loc} {cells slots : Nat} {Z : State} {a0 : Array Value} {h : Heap} {a b : Addr} {ty : FieldType} {n n' : Nat} {f f' : Nat → Value}
    (X : Stand p l e R s m args below meth c T locs cells slots) (hx : p.tables.exec = Jvm.exec) (hZ : Z.Warmed39 s.vm) {own : String} {index : Nat} (hown : s.vm.findClass own = some m.cls)
    (w1 : (Cond.methodLink own index Jvm.Stand.acN).before a0 Z = true) (w2 : (Cond.native Jvm.Stand.acN).before a0 Z = true) (w3 : (Cond.static Jvm.Stand.acN).before a0 Z = true) (w4 : (Cond.initialized "java/lang/System").before a0 Z = true) (eT : T.heap = h)
    (A : own_Ar Z h a ty n f) (B : own_Ar Z h b ty n' f') (hty : refKind ty = false) {k : Nat} (hk : k ≤ n) (hk' : k ≤ n') {n0 : Nat} (N : Fr n0 locs) (ge : n0 ≤ b)
    {g : JFrame} (hg : g.method = m) (hsize : g.locals.size = c.maxLocals) {rest : List Value} (hs : g.stack = .int (Int32.ofNat k) :: .int 0 :: .ref b :: .int 0 :: .ref a :: rest) (hd : decode c.code g.pc = .ok (.invokestatic index, 3))
    (hf : 1 ≤ R.frames) {W : Nat} (hW : 2 * g.monitorRoom + (rest.map fun v => v.category).sum ≤ W) (hlo : W + (nativeFrameWords "java/lang/System" "arraycopy" 5 + 11) ≤ R.locals) :
    ∃ T' h' L, Stand p l e R s m args below meth c T' L cells slots ∧ T'.heap = h' ∧ Fr n0 L ∧ Keep h h' [b] ∧ own_Ar Z h' b ty n' (fun i => if i < k then f i else f' i) ∧
      ∀ target, Steps p.tables e below (T'.setTop { g with pc := g.pc + 3, stack := rest }) target → Steps p.tables e below (T.setTop g) target := by
  have hn := A.1
  have hn' := B.1
  obtain ⟨ka, VA⟩ := A.arv .null
  obtain ⟨kb, VB⟩ := B.arv .null
  have c0 : (0 : Int32).toNatClampNeg = 0 := rfl
  have ck := (own_clamp (k := k) (by omega)).1
  have cn := (own_clamp (k := n) hn).1
  have cn' := (own_clamp (k := n') hn').1
  obtain ⟨T', h', L, X', e', N', K', V', st⟩ := cpA X hx hZ hown w1 w2 w3 w4 eT (sp := 0) (dp := 0) (nn := Int32.ofNat k) (us := (List.range k).map f) VA VB (Or.inl ⟨rfl, hty⟩) (by decide) (by decide) (own_clamp (k := k) (by omega)).2 (by rw [c0, ck, cn]; omega) (by rw [c0, ck, cn']; omega)
    (by
      rw [ck, c0]
      refine List.map_congr_left fun i hi => ?_
      have hi' : i < k := List.mem_range.mp hi
      rw [Nat.zero_add, List.getD_eq_getElem?_getD, List.getElem?_map, List.getElem?_range (by omega)]; rfl)
    (by rw [c0, ck, List.length_map, List.length_range]; omega) N ge hg hsize hs hd hf hW hlo
  refine ⟨T', h', L, X', e', N', K', own_Ar.of_arv V' hn' fun i hi => ?_, st⟩
  rw [c0, ck, List.take_zero, List.nil_append, Nat.zero_add, List.getD_eq_getElem?_getD]
  by_cases q : i < k
  · rw [List.getElem?_append_left (by simp [q]), List.getElem?_map, List.getElem?_range q, if_pos q]; rfl
  · rw [List.getElem?_append_right (by simp; omega), if_neg q, List.getElem?_drop, List.length_map, List.length_range, show k + (i - k) = i by omega, List.getElem?_map, List.getElem?_range hi]; rfl
def own_maxI (a b : Int32) : Int32 := if a < b then b else a
def own_cpy (g : Nat → Int32) (n : Nat) : Nat → Int32 := fun i => if i < n then g i else 0

theorem d6_0 : decode jdk_29_method_65_code 0 = .ok (.iload_n 0, 1) := by decide +kernel
theorem d6_1 : decode jdk_29_method_65_code 1 = .ok (.iload_n 1, 1) := by decide +kernel
theorem d6_2 : decode jdk_29_method_65_code 2 = .ok (.if_icmp .lt 7, 3) := by decide +kernel
theorem d6_5 : decode jdk_29_method_65_code 5 = .ok (.iload_n 0, 1) := by decide +kernel
theorem d6_6 : decode jdk_29_method_65_code 6 = .ok (.goto 4, 3) := by decide +kernel
theorem d6_9 : decode jdk_29_method_65_code 9 = .ok (.iload_n 1, 1) := by decide +kernel
theorem d6_10 : decode jdk_29_method_65_code 10 = .ok (.ireturn, 1) := by decide +kernel
def Q_rm6 (Z : State) (a : Int32) (b : Int32) (h0 : Heap) (n0 : Nat) (v : Option Value) (h : Heap) (L : List Loc) : Prop := v = some (.int (own_maxI a b)) ∧ Fr n0 L ∧ h = h0
set_option maxRecDepth 65536 in
set_option maxHeartbeats 40000000 in
theorem rm6 (l : Launch) (Z : State) (a0 : Array Value) (hw : ∀ d ∈ tables_1, d.before a0 Z = true) (ws : List Jvm.Cond) (a : Int32) (b : Int32) (h0 : Heap) (n0 : Nat) (Z0 : n0 ≤ h0.size)  :
    own_Met l Z h0 (⟨"java/lang/Math", "max", "(II)I"⟩ : MethodName) jdk_29_method_65_code 2 (some .int) ws ({ frames := 0, cells := 0, slots := 0, locals := 0 } : Room) #[(.int a), (.int b)] (Q_rm6 Z a b h0 n0) := by
  refine own_enter (Jvm.Free.JP.mathPlain rfl (by decide +kernel)) ?_
  intro p e s m below meth c T0 X0 hx hby hml hret hlk hown hnm hZ e0
  have N0 := Fr.nil n0
  rw [show entryFrame m #[(.int a), (.int b)] 2 = (mkF m 0 #[.val (.int a), .val (.int b)] []) from by first | (simp [entryFrame, mkF, argsToLocals, Value.category]; done) | rfl]
  refine own_Go.of (S' := (T0.setTop (mkF m 2 #[.val (.int a), .val (.int b)] [(.int b), (.int a)]))) (fun t kt => ?_) ?_
  · show Steps p.tables e below (T0.setTop (mkF m 0 #[.val (.int a), .val (.int b)] [])) _
    refine XS.iloadN X0.here hx rfl (own_hb hby d6_0) rfl ?_
    show Steps p.tables e below (T0.setTop (mkF m 1 #[.val (.int a), .val (.int b)] [(.int a)])) _
    refine XS.iloadN X0.here hx rfl (own_hb hby d6_1) rfl ?_
    exact kt
  by_cases hc2_1 : a < b
  · skip
    refine own_Go.of (S' := (T0.setTop (mkF m 10 #[.val (.int a), .val (.int b)] [(.int b)]))) (fun t kt => ?_) ?_
    · show Steps p.tables e below (T0.setTop (mkF m 2 #[.val (.int a), .val (.int b)] [(.int b), (.int a)])) _
      refine XS.icmpYes X0.here hx rfl (pc0 := 2) (pc' := 9) rfl (own_hb hby d6_2) rfl (tlt hc2_1).1 (by decide) (by decide) ?_
      show Steps p.tables e below (T0.setTop (mkF m 9 #[.val (.int a), .val (.int b)] [])) _
      refine XS.iloadN X0.here hx rfl (own_hb hby d6_9) rfl ?_
      exact kt
    exact own_retI X0 hx hlk hret (own_hb hby d6_10) e0 ⟨by unfold own_maxI; rw [if_pos hc2_1], N0, rfl⟩ (by decide) (by decide)
  · skip
    refine own_Go.of (S' := (T0.setTop (mkF m 10 #[.val (.int a), .val (.int b)] [(.int a)]))) (fun t kt => ?_) ?_
    · show Steps p.tables e below (T0.setTop (mkF m 2 #[.val (.int a), .val (.int b)] [(.int b), (.int a)])) _
      refine XS.icmpNo X0.here hx rfl (own_hb hby d6_2) rfl (flt hc2_1).1 ?_
      show Steps p.tables e below (T0.setTop (mkF m 5 #[.val (.int a), .val (.int b)] [])) _
      refine XS.iloadN X0.here hx rfl (own_hb hby d6_5) rfl ?_
      show Steps p.tables e below (T0.setTop (mkF m 6 #[.val (.int a), .val (.int b)] [(.int a)])) _
      refine XS.goto X0.here hx rfl (pc0 := 6) (pc' := 10) rfl (own_hb hby d6_6) (by decide) (by decide) ?_
      exact kt
    exact own_retI X0 hx hlk hret (own_hb hby d6_10) e0 ⟨by unfold own_maxI; rw [if_neg hc2_1], N0, rfl⟩ (by decide) (by decide)
theorem d12_0 : decode jdk_29_method_69_code 0 = .ok (.iload_n 0, 1) := by decide +kernel
theorem d12_1 : decode jdk_29_method_69_code 1 = .ok (.iload_n 1, 1) := by decide +kernel
theorem d12_2 : decode jdk_29_method_69_code 2 = .ok (.if_icmp .gt 7, 3) := by decide +kernel
theorem d12_5 : decode jdk_29_method_69_code 5 = .ok (.iload_n 0, 1) := by decide +kernel
theorem d12_6 : decode jdk_29_method_69_code 6 = .ok (.goto 4, 3) := by decide +kernel
theorem d12_9 : decode jdk_29_method_69_code 9 = .ok (.iload_n 1, 1) := by decide +kernel
theorem d12_10 : decode jdk_29_method_69_code 10 = .ok (.ireturn, 1) := by decide +kernel
def Q_rm12 (Z : State) (a : Nat) (b : Nat) (h0 : Heap) (n0 : Nat) (v : Option Value) (h : Heap) (L : List Loc) : Prop := v = some (.int (Int32.ofNat (min a b))) ∧ Fr n0 L ∧ h = h0
set_option maxRecDepth 65536 in
set_option maxHeartbeats 40000000 in
theorem rm12 (l : Launch) (Z : State) (a0 : Array Value) (hw : ∀ d ∈ tables_1, d.before a0 Z = true) (ws : List Jvm.Cond) (a : Nat) (b : Nat) (h0 : Heap) (n0 : Nat) (Z0 : n0 ≤ h0.size) (ha : a < 2 ^ 31) (hb : b < 2 ^ 31) :
    own_Met l Z h0 (⟨"java/lang/Math", "min", "(II)I"⟩ : MethodName) jdk_29_method_69_code 2 (some .int) ws ({ frames := 0, cells := 0, slots := 0, locals := 0 } : Room) #[(.int (Int32.ofNat a)), (.int (Int32.ofNat b))] (Q_rm12 Z a b h0 n0) := by
  refine own_enter (Jvm.Free.JP.mathPlain rfl (by decide +kernel)) ?_
  intro p e s m below meth c T0 X0 hx hby hml hret hlk hown hnm hZ e0
  have N0 := Fr.nil n0
  rw [show entryFrame m #[(.int (Int32.ofNat a)), (.int (Int32.ofNat b))] 2 = (mkF m 0 #[.val (.int (Int32.ofNat a)), .val (.int (Int32.ofNat b))] []) from by first | (simp [entryFrame, mkF, argsToLocals, Value.category]; done) | rfl]
  refine own_Go.of (S' := (T0.setTop (mkF m 2 #[.val (.int (Int32.ofNat a)), .val (.int (Int32.ofNat b))] [(.int (Int32.ofNat b)), (.int (Int32.ofNat a))]))) (fun t kt => ?_) ?_
  · show Steps p.tables e below (T0.setTop (mkF m 0 #[.val (.int (Int32.ofNat a)), .val (.int (Int32.ofNat b))] [])) _
    refine XS.iloadN X0.here hx rfl (own_hb hby d12_0) rfl ?_
    show Steps p.tables e below (T0.setTop (mkF m 1 #[.val (.int (Int32.ofNat a)), .val (.int (Int32.ofNat b))] [(.int (Int32.ofNat a))])) _
    refine XS.iloadN X0.here hx rfl (own_hb hby d12_1) rfl ?_
    exact kt
  by_cases hc2_2 : b < a
  · skip
    refine own_Go.of (S' := (T0.setTop (mkF m 10 #[.val (.int (Int32.ofNat a)), .val (.int (Int32.ofNat b))] [(.int (Int32.ofNat b))]))) (fun t kt => ?_) ?_
    · show Steps p.tables e below (T0.setTop (mkF m 2 #[.val (.int (Int32.ofNat a)), .val (.int (Int32.ofNat b))] [(.int (Int32.ofNat b)), (.int (Int32.ofNat a))])) _
      refine XS.icmpYes X0.here hx rfl (pc0 := 2) (pc' := 9) rfl (own_hb hby d12_2) rfl (tlt ((own_ltN (by omega) (by omega)).mpr hc2_2)).2.2.1 (by decide) (by decide) ?_
      show Steps p.tables e below (T0.setTop (mkF m 9 #[.val (.int (Int32.ofNat a)), .val (.int (Int32.ofNat b))] [])) _
      refine XS.iloadN X0.here hx rfl (own_hb hby d12_9) rfl ?_
      exact kt
    exact own_retI X0 hx hlk hret (own_hb hby d12_10) e0 ⟨by rw [Nat.min_eq_right (by omega)], N0, rfl⟩ (by decide) (by decide)
  · skip
    refine own_Go.of (S' := (T0.setTop (mkF m 10 #[.val (.int (Int32.ofNat a)), .val (.int (Int32.ofNat b))] [(.int (Int32.ofNat a))]))) (fun t kt => ?_) ?_
    · show Steps p.tables e below (T0.setTop (mkF m 2 #[.val (.int (Int32.ofNat a)), .val (.int (Int32.ofNat b))] [(.int (Int32.ofNat b)), (.int (Int32.ofNat a))])) _
      refine XS.icmpNo X0.here hx rfl (own_hb hby d12_2) rfl (flt (fun q => hc2_2 ((own_ltN (by omega) (by omega)).mp q))).2.2.1 ?_
      show Steps p.tables e below (T0.setTop (mkF m 5 #[.val (.int (Int32.ofNat a)), .val (.int (Int32.ofNat b))] [])) _
      refine XS.iloadN X0.here hx rfl (own_hb hby d12_5) rfl ?_
      show Steps p.tables e below (T0.setTop (mkF m 6 #[.val (.int (Int32.ofNat a)), .val (.int (Int32.ofNat b))] [(.int (Int32.ofNat a))])) _
      refine XS.goto X0.here hx rfl (pc0 := 6) (pc' := 10) rfl (own_hb hby d12_6) (by decide) (by decide) ?_
      exact kt
    exact own_retI X0 hx hlk hret (own_hb hby d12_10) e0 ⟨by rw [Nat.min_eq_left (by omega)], N0, rfl⟩ (by decide) (by decide)
theorem d13_0 : decode jdk_65_method_123_code 0 = .ok (.iload_n 1, 1) := by decide +kernel
theorem d13_1 : decode jdk_65_method_123_code 1 = .ok (.aload_n 0, 1) := by decide +kernel
theorem d13_2 : decode jdk_65_method_123_code 2 = .ok (.arraylength, 1) := by decide +kernel
theorem d13_3 : decode jdk_65_method_123_code 3 = .ok (.if_icmp .ne 11, 3) := by decide +kernel
theorem d13_6 : decode jdk_65_method_123_code 6 = .ok (.aload_n 0, 1) := by decide +kernel
theorem d13_7 : decode jdk_65_method_123_code 7 = .ok (.invokevirtual 316, 3) := by decide +kernel
theorem d13_10 : decode jdk_65_method_123_code 10 = .ok (.checkcast 317, 3) := by decide +kernel
theorem d13_13 : decode jdk_65_method_123_code 13 = .ok (.areturn, 1) := by decide +kernel
theorem d13_14 : decode jdk_65_method_123_code 14 = .ok (.iload_n 1, 1) := by decide +kernel
theorem d13_15 : decode jdk_65_method_123_code 15 = .ok (.newarray .int, 2) := by decide +kernel
theorem d13_17 : decode jdk_65_method_123_code 17 = .ok (.astore_n 2, 1) := by decide +kernel
theorem d13_18 : decode jdk_65_method_123_code 18 = .ok (.aload_n 0, 1) := by decide +kernel
theorem d13_19 : decode jdk_65_method_123_code 19 = .ok (.iconst 0, 1) := by decide +kernel
theorem d13_20 : decode jdk_65_method_123_code 20 = .ok (.aload_n 2, 1) := by decide +kernel
theorem d13_21 : decode jdk_65_method_123_code 21 = .ok (.iconst 0, 1) := by decide +kernel
theorem d13_22 : decode jdk_65_method_123_code 22 = .ok (.aload_n 0, 1) := by decide +kernel
theorem d13_23 : decode jdk_65_method_123_code 23 = .ok (.arraylength, 1) := by decide +kernel
theorem d13_24 : decode jdk_65_method_123_code 24 = .ok (.iload_n 1, 1) := by decide +kernel
theorem d13_25 : decode jdk_65_method_123_code 25 = .ok (.invokestatic 304, 3) := by decide +kernel
theorem d13_28 : decode jdk_65_method_123_code 28 = .ok (.invokestatic 150, 3) := by decide +kernel
theorem d13_31 : decode jdk_65_method_123_code 31 = .ok (.aload_n 2, 1) := by decide +kernel
theorem d13_32 : decode jdk_65_method_123_code 32 = .ok (.areturn, 1) := by decide +kernel
theorem pn_13 : plainName "java/util/Arrays" = true := by first | (simp [plainName, overriddenIn]; done) | decide +kernel
theorem pd_0 : parseMethodDescriptor "(II)I" = some ⟨[.int, .int], some .int⟩ := by decide +kernel
def Q_rm13 (Z : State) (r : Addr) (j : Nat) (k : Nat) (g : Nat → Int32) (h0 : Heap) (n0 : Nat) (v : Option Value) (h : Heap) (L : List Loc) : Prop := ∃ b : Addr, v = some (.ref b) ∧ Fr n0 L ∧ Keep h0 h [] ∧ (h0.size ≤ b) ∧ (own_Ar Z h b .int j (own_I (own_cpy g k)))
set_option maxRecDepth 65536 in
set_option maxHeartbeats 40000000 in
theorem rm13 (l : Launch) (Z : State) (a0 : Array Value) (hw : ∀ d ∈ tables_1, d.before a0 Z = true) (ws : List Jvm.Cond) (r : Addr) (j : Nat) (k : Nat) (g : Nat → Int32) (h0 : Heap) (n0 : Nat) (Z0 : n0 ≤ h0.size) (pr0 : own_Ar Z h0 r .int k (own_I g)) (hkj : k < j) (hj : j ≤ 8) :
    own_Met l Z h0 (⟨"java/util/Arrays", "copyOf", "([II)[I"⟩ : MethodName) jdk_65_method_123_code 3 (some (.array .int)) ws ({ frames := 1, cells := 1, slots := 8, locals := 18 } : Room) #[(.ref r), (.int (Int32.ofNat j))] (Q_rm13 Z r j k g h0 n0) := by
  refine own_enter (plainFor_of_name pn_13) ?_
  intro p e s m below meth c T0 X0 hx hby hml hret hlk hown hnm hZ e0
  have N0 := Fr.nil n0
  have kp0 : Keep h0 h0 [] := Keep.refl h0 _
  rw [show entryFrame m #[(.ref r), (.int (Int32.ofNat j))] 3 = (mkF m 0 #[.val (.ref r), .val (.int (Int32.ofNat j)), .unset] []) from by first | (simp [entryFrame, mkF, argsToLocals, Value.category]; done) | rfl]
  refine own_Go.of (S' := (T0.setTop (mkF m 2 #[.val (.ref r), .val (.int (Int32.ofNat j)), .unset] [(.ref r), (.int (Int32.ofNat j))]))) (fun t kt => ?_) ?_
  · show Steps p.tables e below (T0.setTop (mkF m 0 #[.val (.ref r), .val (.int (Int32.ofNat j)), .unset] [])) _
    refine XS.iloadN X0.here hx rfl (own_hb hby d13_0) rfl ?_
    show Steps p.tables e below (T0.setTop (mkF m 1 #[.val (.ref r), .val (.int (Int32.ofNat j)), .unset] [(.int (Int32.ofNat j))])) _
    refine XS.aloadN X0.here hx rfl (own_hb hby d13_1) rfl rfl ?_
    exact kt
  obtain ⟨cl3, Ar3, hln3⟩ := own_Ar.len pr0
  refine own_Go.of (S' := (T0.setTop (mkF m 15 #[.val (.ref r), .val (.int (Int32.ofNat j)), .unset] [(.int (Int32.ofNat j))]))) (fun t kt => ?_) ?_
  · show Steps p.tables e below (T0.setTop (mkF m 2 #[.val (.ref r), .val (.int (Int32.ofNat j)), .unset] [(.ref r), (.int (Int32.ofNat j))])) _
    refine X0.arraylength hx (by rw [e0]; exact Ar3.1) (State.isArrayOf_alike hZ.alike Ar3.2.1) (g := (mkF m 2 #[.val (.ref r), .val (.int (Int32.ofNat j)), .unset] [(.ref r), (.int (Int32.ofNat j))])) rfl rfl (own_hb hby d13_2) _ ?_
    rw [hln3]
    show Steps p.tables e below (T0.setTop (mkF m 3 #[.val (.ref r), .val (.int (Int32.ofNat j)), .unset] [(.int (Int32.ofNat k)), (.int (Int32.ofNat j))])) _
    refine XS.icmpYes X0.here hx rfl (pc0 := 3) (pc' := 14) rfl (own_hb hby d13_3) rfl (feq (fun q => by have h2 := (own_eqN (by omega) (by omega)).mp q; omega)).2 (by decide) (by decide) ?_
    show Steps p.tables e below (T0.setTop (mkF m 14 #[.val (.ref r), .val (.int (Int32.ofNat j)), .unset] [])) _
    refine XS.iloadN X0.here hx rfl (own_hb hby d13_14) rfl ?_
    exact kt
  obtain ⟨T4, h4, X4, e4, E4, A4, st4⟩ := own_newP X0 hx hZ (hw _ (List.mem_of_getElem? (i := 13) rfl)) e0 (g := (mkF m 15 #[.val (.ref r), .val (.int (Int32.ofNat j)), .unset] [(.int (Int32.ofNat j))])) rfl (own_hb hby d13_15) rfl (n := j) (cap := 8) rfl hj (by decide) (by decide) (by decide)
  obtain ⟨b4, g4⟩ : ∃ z, z = h0.size := ⟨_, rfl⟩
  rw [← g4] at A4 st4
  have gx4 : n0 ≤ b4 := Nat.le_trans Z0 (Nat.le_of_eq g4.symm)
  have ne5 : r ≠ b4 := Nat.ne_of_lt (Nat.lt_of_lt_of_le pr0.lt (Nat.le_of_eq g4.symm))
  have sz4 : h0.size ≤ b4 := Nat.le_trans kp0.1 (Nat.le_of_eq g4.symm)
  refine own_Go.of (S' := (T4.setTop (mkF m 17 #[.val (.ref r), .val (.int (Int32.ofNat j)), .unset] [(.ref b4)]))) st4 ?_
  have f6 : own_Ar Z h4 r .int k (own_I g) := pr0.ext E4
  have z7 : n0 ≤ h4.size := Nat.le_trans Z0 E4.1
  have kp8 : Keep h0 h4 [] := kp0.ext E4
  have f9 : own_Ar Z h4 b4 .int j (own_I (fun _ => (0 : Int32))) := A4
  refine own_Go.of (S' := (T4.setTop (mkF m 23 #[.val (.ref r), .val (.int (Int32.ofNat j)), .val (.ref b4)] [(.ref r), (.int (0 : Int32)), (.ref b4), (.int (0 : Int32)), (.ref r)]))) (fun t kt => ?_) ?_
  · show Steps p.tables e below (T4.setTop (mkF m 17 #[.val (.ref r), .val (.int (Int32.ofNat j)), .unset] [(.ref b4)])) _
    refine XS.astoreN X4.here hx rfl (own_hb hby d13_17) rfl rfl (l' := #[.val (.ref r), .val (.int (Int32.ofNat j)), .val (.ref b4)]) rfl ?_
    show Steps p.tables e below (T4.setTop (mkF m 18 #[.val (.ref r), .val (.int (Int32.ofNat j)), .val (.ref b4)] [])) _
    refine XS.aloadN X4.here hx rfl (own_hb hby d13_18) rfl rfl ?_
    show Steps p.tables e below (T4.setTop (mkF m 19 #[.val (.ref r), .val (.int (Int32.ofNat j)), .val (.ref b4)] [(.ref r)])) _
    refine XS.iconst X4.here hx rfl (own_hb hby d13_19) ?_
    show Steps p.tables e below (T4.setTop (mkF m 20 #[.val (.ref r), .val (.int (Int32.ofNat j)), .val (.ref b4)] [(.int (0 : Int32)), (.ref r)])) _
    refine XS.aloadN X4.here hx rfl (own_hb hby d13_20) rfl rfl ?_
    show Steps p.tables e below (T4.setTop (mkF m 21 #[.val (.ref r), .val (.int (Int32.ofNat j)), .val (.ref b4)] [(.ref b4), (.int (0 : Int32)), (.ref r)])) _
    refine XS.iconst X4.here hx rfl (own_hb hby d13_21) ?_
    show Steps p.tables e below (T4.setTop (mkF m 22 #[.val (.ref r), .val (.int (Int32.ofNat j)), .val (.ref b4)] [(.int (0 : Int32)), (.ref b4), (.int (0 : Int32)), (.ref r)])) _
    refine XS.aloadN X4.here hx rfl (own_hb hby d13_22) rfl rfl ?_
    exact kt
  obtain ⟨cl10, Ar10, hln10⟩ := own_Ar.len f6
  refine own_Go.of (S' := (T4.setTop (mkF m 25 #[.val (.ref r), .val (.int (Int32.ofNat j)), .val (.ref b4)] [(.int (Int32.ofNat j)), (.int (Int32.ofNat k)), (.int (0 : Int32)), (.ref b4), (.int (0 : Int32)), (.ref r)]))) (fun t kt => ?_) ?_
  · show Steps p.tables e below (T4.setTop (mkF m 23 #[.val (.ref r), .val (.int (Int32.ofNat j)), .val (.ref b4)] [(.ref r), (.int (0 : Int32)), (.ref b4), (.int (0 : Int32)), (.ref r)])) _
    refine X4.arraylength hx (by rw [e4]; exact Ar10.1) (State.isArrayOf_alike hZ.alike Ar10.2.1) (g := (mkF m 23 #[.val (.ref r), .val (.int (Int32.ofNat j)), .val (.ref b4)] [(.ref r), (.int (0 : Int32)), (.ref b4), (.int (0 : Int32)), (.ref r)])) rfl rfl (own_hb hby d13_23) _ ?_
    rw [hln10]
    show Steps p.tables e below (T4.setTop (mkF m 24 #[.val (.ref r), .val (.int (Int32.ofNat j)), .val (.ref b4)] [(.int (Int32.ofNat k)), (.int (0 : Int32)), (.ref b4), (.int (0 : Int32)), (.ref r)])) _
    refine XS.iloadN X4.here hx rfl (own_hb hby d13_24) rfl ?_
    exact kt
  obtain ⟨_, _, ⟨T11, L11, k11, n11⟩, -, X11, ⟨Lc11, hQ11, l11, y11, z11⟩, st11⟩ := Jvm.LawKit.callS X4 hx (y := (⟨"java/lang/Math", "min", "(II)I"⟩ : MethodName)) hown (mvT hZ (hw _ (List.mem_of_getElem? (i := 70) rfl))) (mvT hZ (hw _ (List.mem_of_getElem? (i := 71) rfl))) (mvT hZ (hw _ (List.mem_of_getElem? (i := 36) rfl))) (mvT hZ (hw _ (List.mem_of_getElem? (i := 72) rfl))) (by decide) (backOf (W := 4) (rm12 l Z a0 hw [] k j h4 n0 z7 (by omega) (by omega)) hZ (hw _ (List.mem_of_getElem? (i := 72) rfl)) (hw _ (List.mem_of_getElem? (i := 36) rfl)) (by decide) (by decide)) (g := (mkF m 25 #[.val (.ref r), .val (.int (Int32.ofNat j)), .val (.ref b4)] [(.int (Int32.ofNat j)), (.int (Int32.ofNat k)), (.int (0 : Int32)), (.ref b4), (.int (0 : Int32)), (.ref r)])) rfl (by rw [hml]; rfl) (argsL := [(.int (Int32.ofNat k)), (.int (Int32.ofNat j))]) (rest := [(.int (0 : Int32)), (.ref b4), (.int (0 : Int32)), (.ref r)]) (lenOf pd_0 rfl) rfl (by show 2 * 0 + _ ≤ _; exact Nat.le_of_eq rfl) (own_hb hby d13_25) (fun _ _ => ⟨rfl, e4, (by decide : 1 + 0 ≤ _), (by decide : 8 + 0 ≤ _)⟩)
  dsimp only [Pt.U, Pt.locs, Pt.cells, Pt.slots] at X11 l11 y11 z11 st11 hQ11
  subst l11 y11 z11
  obtain ⟨rfl, N11q, hh11⟩ := hQ11
  have N11 := Fr.app N0 N11q
  refine own_Go.of (S' := (T11.setTop (mkF m 28 #[.val (.ref r), .val (.int (Int32.ofNat j)), .val (.ref b4)] [(.int (Int32.ofNat (min k j))), (.int (0 : Int32)), (.ref b4), (.int (0 : Int32)), (.ref r)]))) (fun t kt => st11 t kt) ?_
  refine own_Go.of (S' := (T11.setTop (mkF m 28 #[.val (.ref r), .val (.int (Int32.ofNat j)), .val (.ref b4)] [(.int (Int32.ofNat k)), (.int (0 : Int32)), (.ref b4), (.int (0 : Int32)), (.ref r)]))) (fun t kt => ?_) ?_
  · show Steps p.tables e below (T11.setTop (mkF m 28 #[.val (.ref r), .val (.int (Int32.ofNat j)), .val (.ref b4)] [(.int (Int32.ofNat (min k j))), (.int (0 : Int32)), (.ref b4), (.int (0 : Int32)), (.ref r)])) _
    rw [Nat.min_eq_left (Nat.le_of_lt hkj)]
    exact kt
  obtain ⟨T12, h12, L12, X12, e12, N12, K12, A12, st12⟩ := own_copy X11 hx hZ hown (hw _ (List.mem_of_getElem? (i := 73) rfl)) (hw _ (List.mem_of_getElem? (i := 76) rfl)) (hw _ (List.mem_of_getElem? (i := 74) rfl)) (hw _ (List.mem_of_getElem? (i := 75) rfl)) hh11 f6 f9 rfl (Nat.le_refl k) (Nat.le_of_lt hkj) N11 gx4 (g := (mkF m 28 #[.val (.ref r), .val (.int (Int32.ofNat j)), .val (.ref b4)] [(.int (Int32.ofNat k)), (.int (0 : Int32)), (.ref b4), (.int (0 : Int32)), (.ref r)])) rfl (by rw [hml]; rfl) rfl (own_hb hby d13_28) (by decide) (W := 0) (by show 2 * 0 + _ ≤ _; exact Nat.le_of_eq rfl) (by decide)
  refine own_Go.of (S' := (T12.setTop (mkF m 31 #[.val (.ref r), .val (.int (Int32.ofNat j)), .val (.ref b4)] []))) st12 ?_
  have f13 : own_Ar Z h12 r .int k (own_I g) := f6.keep K12 (ninS ne5 nin0)
  have z14 : n0 ≤ h12.size := Nat.le_trans z7 K12.1
  have kp15 : Keep h0 h12 [] := kp8.trans K12 (allS (Or.inr sz4) all0)
  have fcp : own_Ar Z h12 b4 .int j (own_I (own_cpy g k)) := A12.eqv (fun i hi => by unfold own_I own_cpy; by_cases q : i < k <;> simp only [q, if_true, if_false])
  refine own_Go.of (S' := (T12.setTop (mkF m 32 #[.val (.ref r), .val (.int (Int32.ofNat j)), .val (.ref b4)] [(.ref b4)]))) (fun t kt => ?_) ?_
  · show Steps p.tables e below (T12.setTop (mkF m 31 #[.val (.ref r), .val (.int (Int32.ofNat j)), .val (.ref b4)] [])) _
    refine XS.aloadN X12.here hx rfl (own_hb hby d13_31) rfl rfl ?_
    exact kt
  exact own_retA X12 hx hlk hret rfl rfl (own_hb hby d13_32) e12 ⟨b4, rfl, N12, kp15, sz4, fcp⟩ (by decide) (by decide)
theorem d11_0 : decode jdk_65_method_128_code 0 = .ok (.iload_n 1, 1) := by decide +kernel
theorem d11_1 : decode jdk_65_method_128_code 1 = .ok (.aload_n 0, 1) := by decide +kernel
theorem d11_2 : decode jdk_65_method_128_code 2 = .ok (.arraylength, 1) := by decide +kernel
theorem d11_3 : decode jdk_65_method_128_code 3 = .ok (.if_icmp .ne 11, 3) := by decide +kernel
theorem d11_6 : decode jdk_65_method_128_code 6 = .ok (.aload_n 0, 1) := by decide +kernel
theorem d11_7 : decode jdk_65_method_128_code 7 = .ok (.invokevirtual 331, 3) := by decide +kernel
theorem d11_10 : decode jdk_65_method_128_code 10 = .ok (.checkcast 332, 3) := by decide +kernel
theorem d11_13 : decode jdk_65_method_128_code 13 = .ok (.areturn, 1) := by decide +kernel
theorem d11_14 : decode jdk_65_method_128_code 14 = .ok (.iload_n 1, 1) := by decide +kernel
theorem d11_15 : decode jdk_65_method_128_code 15 = .ok (.newarray .boolean, 2) := by decide +kernel
theorem d11_17 : decode jdk_65_method_128_code 17 = .ok (.astore_n 2, 1) := by decide +kernel
theorem d11_18 : decode jdk_65_method_128_code 18 = .ok (.aload_n 0, 1) := by decide +kernel
theorem d11_19 : decode jdk_65_method_128_code 19 = .ok (.iconst 0, 1) := by decide +kernel
theorem d11_20 : decode jdk_65_method_128_code 20 = .ok (.aload_n 2, 1) := by decide +kernel
theorem d11_21 : decode jdk_65_method_128_code 21 = .ok (.iconst 0, 1) := by decide +kernel
theorem d11_22 : decode jdk_65_method_128_code 22 = .ok (.aload_n 0, 1) := by decide +kernel
theorem d11_23 : decode jdk_65_method_128_code 23 = .ok (.arraylength, 1) := by decide +kernel
theorem d11_24 : decode jdk_65_method_128_code 24 = .ok (.iload_n 1, 1) := by decide +kernel
theorem d11_25 : decode jdk_65_method_128_code 25 = .ok (.invokestatic 304, 3) := by decide +kernel
theorem d11_28 : decode jdk_65_method_128_code 28 = .ok (.invokestatic 150, 3) := by decide +kernel
theorem d11_31 : decode jdk_65_method_128_code 31 = .ok (.aload_n 2, 1) := by decide +kernel
theorem d11_32 : decode jdk_65_method_128_code 32 = .ok (.areturn, 1) := by decide +kernel
theorem pn_11 : plainName "java/util/Arrays" = true := by first | (simp [plainName, overriddenIn]; done) | decide +kernel
def Q_rm11 (Z : State) (r : Addr) (j : Nat) (k : Nat) (g : Nat → Int32) (h0 : Heap) (n0 : Nat) (v : Option Value) (h : Heap) (L : List Loc) : Prop := ∃ b : Addr, v = some (.ref b) ∧ Fr n0 L ∧ Keep h0 h [] ∧ (h0.size ≤ b) ∧ (own_Ar Z h b .boolean j (own_I (own_cpy g k)))
set_option maxRecDepth 65536 in
set_option maxHeartbeats 40000000 in
theorem rm11 (l : Launch) (Z : State) (a0 : Array Value) (hw : ∀ d ∈ tables_1, d.before a0 Z = true) (ws : List Jvm.Cond) (r : Addr) (j : Nat) (k : Nat) (g : Nat → Int32) (h0 : Heap) (n0 : Nat) (Z0 : n0 ≤ h0.size) (pr0 : own_Ar Z h0 r .boolean k (own_I g)) (hkj : k < j) (hj : j ≤ 8) :
    own_Met l Z h0 (⟨"java/util/Arrays", "copyOf", "([ZI)[Z"⟩ : MethodName) jdk_65_method_128_code 3 (some (.array .boolean)) ws ({ frames := 1, cells := 1, slots := 8, locals := 18 } : Room) #[(.ref r), (.int (Int32.ofNat j))] (Q_rm11 Z r j k g h0 n0) := by
  refine own_enter (plainFor_of_name pn_11) ?_
  intro p e s m below meth c T0 X0 hx hby hml hret hlk hown hnm hZ e0
  have N0 := Fr.nil n0
  have kp0 : Keep h0 h0 [] := Keep.refl h0 _
  rw [show entryFrame m #[(.ref r), (.int (Int32.ofNat j))] 3 = (mkF m 0 #[.val (.ref r), .val (.int (Int32.ofNat j)), .unset] []) from by first | (simp [entryFrame, mkF, argsToLocals, Value.category]; done) | rfl]
  refine own_Go.of (S' := (T0.setTop (mkF m 2 #[.val (.ref r), .val (.int (Int32.ofNat j)), .unset] [(.ref r), (.int (Int32.ofNat j))]))) (fun t kt => ?_) ?_
  · show Steps p.tables e below (T0.setTop (mkF m 0 #[.val (.ref r), .val (.int (Int32.ofNat j)), .unset] [])) _
    refine XS.iloadN X0.here hx rfl (own_hb hby d11_0) rfl ?_
    show Steps p.tables e below (T0.setTop (mkF m 1 #[.val (.ref r), .val (.int (Int32.ofNat j)), .unset] [(.int (Int32.ofNat j))])) _
    refine XS.aloadN X0.here hx rfl (own_hb hby d11_1) rfl rfl ?_
    exact kt
  obtain ⟨cl16, Ar16, hln16⟩ := own_Ar.len pr0
  refine own_Go.of (S' := (T0.setTop (mkF m 15 #[.val (.ref r), .val (.int (Int32.ofNat j)), .unset] [(.int (Int32.ofNat j))]))) (fun t kt => ?_) ?_
  · show Steps p.tables e below (T0.setTop (mkF m 2 #[.val (.ref r), .val (.int (Int32.ofNat j)), .unset] [(.ref r), (.int (Int32.ofNat j))])) _
    refine X0.arraylength hx (by rw [e0]; exact Ar16.1) (State.isArrayOf_alike hZ.alike Ar16.2.1) (g := (mkF m 2 #[.val (.ref r), .val (.int (Int32.ofNat j)), .unset] [(.ref r), (.int (Int32.ofNat j))])) rfl rfl (own_hb hby d11_2) _ ?_
    rw [hln16]
    show Steps p.tables e below (T0.setTop (mkF m 3 #[.val (.ref r), .val (.int (Int32.ofNat j)), .unset] [(.int (Int32.ofNat k)), (.int (Int32.ofNat j))])) _
    refine XS.icmpYes X0.here hx rfl (pc0 := 3) (pc' := 14) rfl (own_hb hby d11_3) rfl (feq (fun q => by have h2 := (own_eqN (by omega) (by omega)).mp q; omega)).2 (by decide) (by decide) ?_
    show Steps p.tables e below (T0.setTop (mkF m 14 #[.val (.ref r), .val (.int (Int32.ofNat j)), .unset] [])) _
    refine XS.iloadN X0.here hx rfl (own_hb hby d11_14) rfl ?_
    exact kt
  obtain ⟨T17, h17, X17, e17, E17, A17, st17⟩ := own_newP X0 hx hZ (hw _ (List.mem_of_getElem? (i := 0) rfl)) e0 (g := (mkF m 15 #[.val (.ref r), .val (.int (Int32.ofNat j)), .unset] [(.int (Int32.ofNat j))])) rfl (own_hb hby d11_15) rfl (n := j) (cap := 8) rfl hj (by decide) (by decide) (by decide)
  obtain ⟨b17, g17⟩ : ∃ z, z = h0.size := ⟨_, rfl⟩
  rw [← g17] at A17 st17
  have gx17 : n0 ≤ b17 := Nat.le_trans Z0 (Nat.le_of_eq g17.symm)
  have ne18 : r ≠ b17 := Nat.ne_of_lt (Nat.lt_of_lt_of_le pr0.lt (Nat.le_of_eq g17.symm))
  have sz17 : h0.size ≤ b17 := Nat.le_trans kp0.1 (Nat.le_of_eq g17.symm)
  refine own_Go.of (S' := (T17.setTop (mkF m 17 #[.val (.ref r), .val (.int (Int32.ofNat j)), .unset] [(.ref b17)]))) st17 ?_
  have f19 : own_Ar Z h17 r .boolean k (own_I g) := pr0.ext E17
  have z20 : n0 ≤ h17.size := Nat.le_trans Z0 E17.1
  have kp21 : Keep h0 h17 [] := kp0.ext E17
  have f22 : own_Ar Z h17 b17 .boolean j (own_I (fun _ => (0 : Int32))) := A17
  refine own_Go.of (S' := (T17.setTop (mkF m 23 #[.val (.ref r), .val (.int (Int32.ofNat j)), .val (.ref b17)] [(.ref r), (.int (0 : Int32)), (.ref b17), (.int (0 : Int32)), (.ref r)]))) (fun t kt => ?_) ?_
  · show Steps p.tables e below (T17.setTop (mkF m 17 #[.val (.ref r), .val (.int (Int32.ofNat j)), .unset] [(.ref b17)])) _
    refine XS.astoreN X17.here hx rfl (own_hb hby d11_17) rfl rfl (l' := #[.val (.ref r), .val (.int (Int32.ofNat j)), .val (.ref b17)]) rfl ?_
    show Steps p.tables e below (T17.setTop (mkF m 18 #[.val (.ref r), .val (.int (Int32.ofNat j)), .val (.ref b17)] [])) _
    refine XS.aloadN X17.here hx rfl (own_hb hby d11_18) rfl rfl ?_
    show Steps p.tables e below (T17.setTop (mkF m 19 #[.val (.ref r), .val (.int (Int32.ofNat j)), .val (.ref b17)] [(.ref r)])) _
    refine XS.iconst X17.here hx rfl (own_hb hby d11_19) ?_
    show Steps p.tables e below (T17.setTop (mkF m 20 #[.val (.ref r), .val (.int (Int32.ofNat j)), .val (.ref b17)] [(.int (0 : Int32)), (.ref r)])) _
    refine XS.aloadN X17.here hx rfl (own_hb hby d11_20) rfl rfl ?_
    show Steps p.tables e below (T17.setTop (mkF m 21 #[.val (.ref r), .val (.int (Int32.ofNat j)), .val (.ref b17)] [(.ref b17), (.int (0 : Int32)), (.ref r)])) _
    refine XS.iconst X17.here hx rfl (own_hb hby d11_21) ?_
    show Steps p.tables e below (T17.setTop (mkF m 22 #[.val (.ref r), .val (.int (Int32.ofNat j)), .val (.ref b17)] [(.int (0 : Int32)), (.ref b17), (.int (0 : Int32)), (.ref r)])) _
    refine XS.aloadN X17.here hx rfl (own_hb hby d11_22) rfl rfl ?_
    exact kt
  obtain ⟨cl23, Ar23, hln23⟩ := own_Ar.len f19
  refine own_Go.of (S' := (T17.setTop (mkF m 25 #[.val (.ref r), .val (.int (Int32.ofNat j)), .val (.ref b17)] [(.int (Int32.ofNat j)), (.int (Int32.ofNat k)), (.int (0 : Int32)), (.ref b17), (.int (0 : Int32)), (.ref r)]))) (fun t kt => ?_) ?_
  · show Steps p.tables e below (T17.setTop (mkF m 23 #[.val (.ref r), .val (.int (Int32.ofNat j)), .val (.ref b17)] [(.ref r), (.int (0 : Int32)), (.ref b17), (.int (0 : Int32)), (.ref r)])) _
    refine X17.arraylength hx (by rw [e17]; exact Ar23.1) (State.isArrayOf_alike hZ.alike Ar23.2.1) (g := (mkF m 23 #[.val (.ref r), .val (.int (Int32.ofNat j)), .val (.ref b17)] [(.ref r), (.int (0 : Int32)), (.ref b17), (.int (0 : Int32)), (.ref r)])) rfl rfl (own_hb hby d11_23) _ ?_
    rw [hln23]
    show Steps p.tables e below (T17.setTop (mkF m 24 #[.val (.ref r), .val (.int (Int32.ofNat j)), .val (.ref b17)] [(.int (Int32.ofNat k)), (.int (0 : Int32)), (.ref b17), (.int (0 : Int32)), (.ref r)])) _
    refine XS.iloadN X17.here hx rfl (own_hb hby d11_24) rfl ?_
    exact kt
  obtain ⟨_, _, ⟨T24, L24, k24, n24⟩, -, X24, ⟨Lc24, hQ24, l24, y24, z24⟩, st24⟩ := Jvm.LawKit.callS X17 hx (y := (⟨"java/lang/Math", "min", "(II)I"⟩ : MethodName)) hown (mvT hZ (hw _ (List.mem_of_getElem? (i := 70) rfl))) (mvT hZ (hw _ (List.mem_of_getElem? (i := 71) rfl))) (mvT hZ (hw _ (List.mem_of_getElem? (i := 36) rfl))) (mvT hZ (hw _ (List.mem_of_getElem? (i := 72) rfl))) (by decide) (backOf (W := 4) (rm12 l Z a0 hw [] k j h17 n0 z20 (by omega) (by omega)) hZ (hw _ (List.mem_of_getElem? (i := 72) rfl)) (hw _ (List.mem_of_getElem? (i := 36) rfl)) (by decide) (by decide)) (g := (mkF m 25 #[.val (.ref r), .val (.int (Int32.ofNat j)), .val (.ref b17)] [(.int (Int32.ofNat j)), (.int (Int32.ofNat k)), (.int (0 : Int32)), (.ref b17), (.int (0 : Int32)), (.ref r)])) rfl (by rw [hml]; rfl) (argsL := [(.int (Int32.ofNat k)), (.int (Int32.ofNat j))]) (rest := [(.int (0 : Int32)), (.ref b17), (.int (0 : Int32)), (.ref r)]) (lenOf pd_0 rfl) rfl (by show 2 * 0 + _ ≤ _; exact Nat.le_of_eq rfl) (own_hb hby d11_25) (fun _ _ => ⟨rfl, e17, (by decide : 1 + 0 ≤ _), (by decide : 8 + 0 ≤ _)⟩)
  dsimp only [Pt.U, Pt.locs, Pt.cells, Pt.slots] at X24 l24 y24 z24 st24 hQ24
  subst l24 y24 z24
  obtain ⟨rfl, N24q, hh24⟩ := hQ24
  have N24 := Fr.app N0 N24q
  refine own_Go.of (S' := (T24.setTop (mkF m 28 #[.val (.ref r), .val (.int (Int32.ofNat j)), .val (.ref b17)] [(.int (Int32.ofNat (min k j))), (.int (0 : Int32)), (.ref b17), (.int (0 : Int32)), (.ref r)]))) (fun t kt => st24 t kt) ?_
  refine own_Go.of (S' := (T24.setTop (mkF m 28 #[.val (.ref r), .val (.int (Int32.ofNat j)), .val (.ref b17)] [(.int (Int32.ofNat k)), (.int (0 : Int32)), (.ref b17), (.int (0 : Int32)), (.ref r)]))) (fun t kt => ?_) ?_
  · show Steps p.tables e below (T24.setTop (mkF m 28 #[.val (.ref r), .val (.int (Int32.ofNat j)), .val (.ref b17)] [(.int (Int32.ofNat (min k j))), (.int (0 : Int32)), (.ref b17), (.int (0 : Int32)), (.ref r)])) _
    rw [Nat.min_eq_left (Nat.le_of_lt hkj)]
    exact kt
  obtain ⟨T25, h25, L25, X25, e25, N25, K25, A25, st25⟩ := own_copy X24 hx hZ hown (hw _ (List.mem_of_getElem? (i := 73) rfl)) (hw _ (List.mem_of_getElem? (i := 76) rfl)) (hw _ (List.mem_of_getElem? (i := 74) rfl)) (hw _ (List.mem_of_getElem? (i := 75) rfl)) hh24 f19 f22 rfl (Nat.le_refl k) (Nat.le_of_lt hkj) N24 gx17 (g := (mkF m 28 #[.val (.ref r), .val (.int (Int32.ofNat j)), .val (.ref b17)] [(.int (Int32.ofNat k)), (.int (0 : Int32)), (.ref b17), (.int (0 : Int32)), (.ref r)])) rfl (by rw [hml]; rfl) rfl (own_hb hby d11_28) (by decide) (W := 0) (by show 2 * 0 + _ ≤ _; exact Nat.le_of_eq rfl) (by decide)
  refine own_Go.of (S' := (T25.setTop (mkF m 31 #[.val (.ref r), .val (.int (Int32.ofNat j)), .val (.ref b17)] []))) st25 ?_
  have f26 : own_Ar Z h25 r .boolean k (own_I g) := f19.keep K25 (ninS ne18 nin0)
  have z27 : n0 ≤ h25.size := Nat.le_trans z20 K25.1
  have kp28 : Keep h0 h25 [] := kp21.trans K25 (allS (Or.inr sz17) all0)
  have fcp : own_Ar Z h25 b17 .boolean j (own_I (own_cpy g k)) := A25.eqv (fun i hi => by unfold own_I own_cpy; by_cases q : i < k <;> simp only [q, if_true, if_false])
  refine own_Go.of (S' := (T25.setTop (mkF m 32 #[.val (.ref r), .val (.int (Int32.ofNat j)), .val (.ref b17)] [(.ref b17)]))) (fun t kt => ?_) ?_
  · show Steps p.tables e below (T25.setTop (mkF m 31 #[.val (.ref r), .val (.int (Int32.ofNat j)), .val (.ref b17)] [])) _
    refine XS.aloadN X25.here hx rfl (own_hb hby d11_31) rfl rfl ?_
    exact kt
  exact own_retA X25 hx hlk hret rfl rfl (own_hb hby d11_32) e25 ⟨b17, rfl, N25, kp28, sz17, fcp⟩ (by decide) (by decide)
theorem d5_0 : decode prog_62_method_3_code 0 = .ok (.iload_n 1, 1) := by decide +kernel
theorem d5_1 : decode prog_62_method_3_code 1 = .ok (.ifCond .lt 8, 3) := by decide +kernel
theorem d5_4 : decode prog_62_method_3_code 4 = .ok (.iload_n 2, 1) := by decide +kernel
theorem d5_5 : decode prog_62_method_3_code 5 = .ok (.iload_n 1, 1) := by decide +kernel
theorem d5_6 : decode prog_62_method_3_code 6 = .ok (.if_icmp .ge 18, 3) := by decide +kernel
theorem d5_9 : decode prog_62_method_3_code 9 = .ok (.new 44, 3) := by decide +kernel
theorem d5_12 : decode prog_62_method_3_code 12 = .ok (.dup, 1) := by decide +kernel
theorem d5_13 : decode prog_62_method_3_code 13 = .ok (.iload_n 1, 1) := by decide +kernel
theorem d5_14 : decode prog_62_method_3_code 14 = .ok (.iload_n 2, 1) := by decide +kernel
theorem d5_20 : decode prog_62_method_3_code 20 = .ok (.invokespecial 50, 3) := by decide +kernel
theorem d5_23 : decode prog_62_method_3_code 23 = .ok (.athrow, 1) := by decide +kernel
theorem d5_24 : decode prog_62_method_3_code 24 = .ok (.aload_n 0, 1) := by decide +kernel
theorem d5_25 : decode prog_62_method_3_code 25 = .ok (.getfield 34, 3) := by decide +kernel
theorem d5_28 : decode prog_62_method_3_code 28 = .ok (.aload_n 0, 1) := by decide +kernel
theorem d5_29 : decode prog_62_method_3_code 29 = .ok (.getfield 13, 3) := by decide +kernel
theorem d5_32 : decode prog_62_method_3_code 32 = .ok (.arraylength, 1) := by decide +kernel
theorem d5_33 : decode prog_62_method_3_code 33 = .ok (.if_icmp .ne 37, 3) := by decide +kernel
theorem d5_36 : decode prog_62_method_3_code 36 = .ok (.aload_n 0, 1) := by decide +kernel
theorem d5_37 : decode prog_62_method_3_code 37 = .ok (.aload_n 0, 1) := by decide +kernel
theorem d5_38 : decode prog_62_method_3_code 38 = .ok (.getfield 13, 3) := by decide +kernel
theorem d5_41 : decode prog_62_method_3_code 41 = .ok (.iconst 2, 1) := by decide +kernel
theorem d5_42 : decode prog_62_method_3_code 42 = .ok (.aload_n 0, 1) := by decide +kernel
theorem d5_43 : decode prog_62_method_3_code 43 = .ok (.getfield 34, 3) := by decide +kernel
theorem d5_46 : decode prog_62_method_3_code 46 = .ok (.imul, 1) := by decide +kernel
theorem d5_47 : decode prog_62_method_3_code 47 = .ok (.invokestatic 53, 3) := by decide +kernel
theorem d5_50 : decode prog_62_method_3_code 50 = .ok (.putfield 13, 3) := by decide +kernel
theorem d5_53 : decode prog_62_method_3_code 53 = .ok (.aload_n 0, 1) := by decide +kernel
theorem d5_54 : decode prog_62_method_3_code 54 = .ok (.aload_n 0, 1) := by decide +kernel
theorem d5_55 : decode prog_62_method_3_code 55 = .ok (.getfield 17, 3) := by decide +kernel
theorem d5_58 : decode prog_62_method_3_code 58 = .ok (.iconst 2, 1) := by decide +kernel
theorem d5_59 : decode prog_62_method_3_code 59 = .ok (.aload_n 0, 1) := by decide +kernel
theorem d5_60 : decode prog_62_method_3_code 60 = .ok (.getfield 34, 3) := by decide +kernel
theorem d5_63 : decode prog_62_method_3_code 63 = .ok (.imul, 1) := by decide +kernel
theorem d5_64 : decode prog_62_method_3_code 64 = .ok (.invokestatic 53, 3) := by decide +kernel
theorem d5_67 : decode prog_62_method_3_code 67 = .ok (.putfield 17, 3) := by decide +kernel
theorem d5_70 : decode prog_62_method_3_code 70 = .ok (.aload_n 0, 1) := by decide +kernel
theorem d5_71 : decode prog_62_method_3_code 71 = .ok (.getfield 13, 3) := by decide +kernel
theorem d5_74 : decode prog_62_method_3_code 74 = .ok (.aload_n 0, 1) := by decide +kernel
theorem d5_75 : decode prog_62_method_3_code 75 = .ok (.getfield 34, 3) := by decide +kernel
theorem d5_78 : decode prog_62_method_3_code 78 = .ok (.iload_n 1, 1) := by decide +kernel
theorem d5_79 : decode prog_62_method_3_code 79 = .ok (.iastore, 1) := by decide +kernel
theorem d5_80 : decode prog_62_method_3_code 80 = .ok (.aload_n 0, 1) := by decide +kernel
theorem d5_81 : decode prog_62_method_3_code 81 = .ok (.getfield 17, 3) := by decide +kernel
theorem d5_84 : decode prog_62_method_3_code 84 = .ok (.aload_n 0, 1) := by decide +kernel
theorem d5_85 : decode prog_62_method_3_code 85 = .ok (.getfield 34, 3) := by decide +kernel
theorem d5_88 : decode prog_62_method_3_code 88 = .ok (.iload_n 2, 1) := by decide +kernel
theorem d5_89 : decode prog_62_method_3_code 89 = .ok (.iastore, 1) := by decide +kernel
theorem d5_90 : decode prog_62_method_3_code 90 = .ok (.aload_n 0, 1) := by decide +kernel
theorem d5_91 : decode prog_62_method_3_code 91 = .ok (.dup, 1) := by decide +kernel
theorem d5_92 : decode prog_62_method_3_code 92 = .ok (.getfield 34, 3) := by decide +kernel
theorem d5_95 : decode prog_62_method_3_code 95 = .ok (.iconst 1, 1) := by decide +kernel
theorem d5_96 : decode prog_62_method_3_code 96 = .ok (.iadd, 1) := by decide +kernel
theorem d5_97 : decode prog_62_method_3_code 97 = .ok (.putfield 34, 3) := by decide +kernel
theorem d5_100 : decode prog_62_method_3_code 100 = .ok (.aload_n 0, 1) := by decide +kernel
theorem d5_101 : decode prog_62_method_3_code 101 = .ok (.aload_n 0, 1) := by decide +kernel
theorem d5_102 : decode prog_62_method_3_code 102 = .ok (.getfield 37, 3) := by decide +kernel
theorem d5_105 : decode prog_62_method_3_code 105 = .ok (.iload_n 2, 1) := by decide +kernel
theorem d5_106 : decode prog_62_method_3_code 106 = .ok (.invokestatic 57, 3) := by decide +kernel
theorem d5_109 : decode prog_62_method_3_code 109 = .ok (.putfield 37, 3) := by decide +kernel
theorem d5_112 : decode prog_62_method_3_code 112 = .ok (.aload_n 0, 1) := by decide +kernel
theorem d5_113 : decode prog_62_method_3_code 113 = .ok (.iconst 0, 1) := by decide +kernel
theorem d5_114 : decode prog_62_method_3_code 114 = .ok (.putfield 40, 3) := by decide +kernel
theorem d5_117 : decode prog_62_method_3_code 117 = .ok (.return_, 1) := by decide +kernel
theorem pn_5 : plainName "com/example/quayside/quayside/Row" = true := by first | (simp [plainName, overriddenIn]; done) | decide +kernel
def Q_rm5s (Z : State) (o : Addr) (i : Nat) (j : Int32) (rs : Addr) (re : Addr) (k : Nat) (cap : Nat) (gs : Nat → Int32) (ge : Nat → Int32) (r : Int32) (tx : Int32) (bs : Addr) (nl : Value) (cn : Int32) (h0 : Heap) (n0 : Nat) (v : Option Value) (h : Heap) (L : List Loc) : Prop := v = none ∧ Fr n0 L ∧ Keep h0 h [o, rs, re] ∧ (Exa Z h o "com/example/quayside/quayside/Row") ∧ (Fld Z h o "com/example/quayside/quayside/Row" "starts" "[I" (.ref rs)) ∧ (Fld Z h o "com/example/quayside/quayside/Row" "ends" "[I" (.ref re)) ∧ (Fld Z h o "com/example/quayside/quayside/Row" "size" "I" (.int (Int32.ofNat (k + 1)))) ∧ (Fld Z h o "com/example/quayside/quayside/Row" "reach" "I" (.int (own_maxI r j))) ∧ (Fld Z h o "com/example/quayside/quayside/Row" "text" "Z" (.int (0 : Int32))) ∧ (Fld Z h o "com/example/quayside/quayside/Row" "bytes" "[B" (.ref bs)) ∧ (Fld Z h o "com/example/quayside/quayside/Row" "nulls" "[Z" nl) ∧ (Fld Z h o "com/example/quayside/quayside/Row" "nullCount" "I" (.int cn)) ∧ (own_Ar Z h rs .int cap (own_I (own_set gs k (Int32.ofNat i)))) ∧ (own_Ar Z h re .int cap (own_I (own_set ge k j)))
set_option maxRecDepth 65536 in
set_option maxHeartbeats 40000000 in
theorem rm5s (l : Launch) (Z : State) (a0 : Array Value) (hw : ∀ d ∈ tables_1, d.before a0 Z = true) (ws : List Jvm.Cond) (o : Addr) (i : Nat) (j : Int32) (rs : Addr) (re : Addr) (k : Nat) (cap : Nat) (gs : Nat → Int32) (ge : Nat → Int32) (r : Int32) (tx : Int32) (bs : Addr) (nl : Value) (cn : Int32) (h0 : Heap) (n0 : Nat) (Z0 : n0 ≤ h0.size) (pr0 : Exa Z h0 o "com/example/quayside/quayside/Row") (pr1 : Fld Z h0 o "com/example/quayside/quayside/Row" "starts" "[I" (.ref rs)) (pr2 : Fld Z h0 o "com/example/quayside/quayside/Row" "ends" "[I" (.ref re)) (pr3 : Fld Z h0 o "com/example/quayside/quayside/Row" "size" "I" (.int (Int32.ofNat k))) (pr4 : Fld Z h0 o "com/example/quayside/quayside/Row" "reach" "I" (.int r)) (pr5 : Fld Z h0 o "com/example/quayside/quayside/Row" "text" "Z" (.int tx)) (pr6 : Fld Z h0 o "com/example/quayside/quayside/Row" "bytes" "[B" (.ref bs)) (pr7 : Fld Z h0 o "com/example/quayside/quayside/Row" "nulls" "[Z" nl) (pr8 : Fld Z h0 o "com/example/quayside/quayside/Row" "nullCount" "I" (.int cn)) (pr9 : own_Ar Z h0 rs .int cap (own_I gs)) (pr10 : own_Ar Z h0 re .int cap (own_I ge)) (pr11 : n0 ≤ o) (pr12 : n0 ≤ rs) (pr13 : n0 ≤ re) (pr14 : o ≠ rs) (pr15 : o ≠ re) (pr16 : rs ≠ re) (hi : i < 2 ^ 31) (hij : ¬ j < Int32.ofNat i) (hk : k < cap) (hc : cap ≤ 8) :
    own_Met l Z h0 (⟨"com/example/quayside/quayside/Row", "add", "(II)V"⟩ : MethodName) prog_62_method_3_code 3 none ws ({ frames := 1, cells := 0, slots := 0, locals := 14 } : Room) #[(.ref o), (.int (Int32.ofNat i)), (.int j)] (Q_rm5s Z o i j rs re k cap gs ge r tx bs nl cn h0 n0) := by
  refine own_enter (plainFor_of_name pn_5) ?_
  intro p e s m below meth c T0 X0 hx hby hml hret hlk hown hnm hZ e0
  have N0 := Fr.nil n0
  have kp0 : Keep h0 h0 [o, rs, re] := Keep.refl h0 _
  rw [show entryFrame m #[(.ref o), (.int (Int32.ofNat i)), (.int j)] 3 = (mkF m 0 #[.val (.ref o), .val (.int (Int32.ofNat i)), .val (.int j)] []) from by first | (simp [entryFrame, mkF, argsToLocals, Value.category]; done) | rfl]
  refine own_Go.of (S' := (T0.setTop (mkF m 25 #[.val (.ref o), .val (.int (Int32.ofNat i)), .val (.int j)] [(.ref o)]))) (fun t kt => ?_) ?_
  · show Steps p.tables e below (T0.setTop (mkF m 0 #[.val (.ref o), .val (.int (Int32.ofNat i)), .val (.int j)] [])) _
    refine XS.iloadN X0.here hx rfl (own_hb hby d5_0) rfl ?_
    show Steps p.tables e below (T0.setTop (mkF m 1 #[.val (.ref o), .val (.int (Int32.ofNat i)), .val (.int j)] [(.int (Int32.ofNat i))])) _
    refine XS.ifNo X0.here hx rfl (own_hb hby d5_1) rfl ((if0 _ _).trans (flt (fun q => by have h2 := (own_ltN (b := 0) hi (by decide)).mp q; omega)).1) ?_
    show Steps p.tables e below (T0.setTop (mkF m 4 #[.val (.ref o), .val (.int (Int32.ofNat i)), .val (.int j)] [])) _
    refine XS.iloadN X0.here hx rfl (own_hb hby d5_4) rfl ?_
    show Steps p.tables e below (T0.setTop (mkF m 5 #[.val (.ref o), .val (.int (Int32.ofNat i)), .val (.int j)] [(.int j)])) _
    refine XS.iloadN X0.here hx rfl (own_hb hby d5_5) rfl ?_
    show Steps p.tables e below (T0.setTop (mkF m 6 #[.val (.ref o), .val (.int (Int32.ofNat i)), .val (.int j)] [(.int (Int32.ofNat i)), (.int j)])) _
    refine XS.icmpYes X0.here hx rfl (pc0 := 6) (pc' := 24) rfl (own_hb hby d5_6) rfl (flt hij).2.1 (by decide) (by decide) ?_
    show Steps p.tables e below (T0.setTop (mkF m 24 #[.val (.ref o), .val (.int (Int32.ofNat i)), .val (.int j)] [])) _
    refine XS.aloadN X0.here hx rfl (own_hb hby d5_24) rfl rfl ?_
    exact kt
  obtain ⟨T29, X29, e29, st29⟩ := getF X0 hx hZ hown (host := "") (Or.inl (hw _ (List.mem_of_getElem? (i := 30) rfl))) Via.refl e0 pr3 (g := (mkF m 25 #[.val (.ref o), .val (.int (Int32.ofNat i)), .val (.int j)] [(.ref o)])) rfl rfl (own_hb hby d5_25)
  refine own_Go.of (S' := (T29.setTop (mkF m 28 #[.val (.ref o), .val (.int (Int32.ofNat i)), .val (.int j)] [(.int (Int32.ofNat k))]))) st29 ?_
  refine own_Go.of (S' := (T29.setTop (mkF m 29 #[.val (.ref o), .val (.int (Int32.ofNat i)), .val (.int j)] [(.ref o), (.int (Int32.ofNat k))]))) (fun t kt => ?_) ?_
  · show Steps p.tables e below (T29.setTop (mkF m 28 #[.val (.ref o), .val (.int (Int32.ofNat i)), .val (.int j)] [(.int (Int32.ofNat k))])) _
    refine XS.aloadN X29.here hx rfl (own_hb hby d5_28) rfl rfl ?_
    exact kt
  obtain ⟨T30, X30, e30, st30⟩ := getF X29 hx hZ hown (host := "") (Or.inl (hw _ (List.mem_of_getElem? (i := 14) rfl))) Via.refl e29 pr1 (g := (mkF m 29 #[.val (.ref o), .val (.int (Int32.ofNat i)), .val (.int j)] [(.ref o), (.int (Int32.ofNat k))])) rfl rfl (own_hb hby d5_29)
  refine own_Go.of (S' := (T30.setTop (mkF m 32 #[.val (.ref o), .val (.int (Int32.ofNat i)), .val (.int j)] [(.ref rs), (.int (Int32.ofNat k))]))) st30 ?_
  obtain ⟨cl31, Ar31, hln31⟩ := own_Ar.len pr9
  refine own_Go.of (S' := (T30.setTop (mkF m 71 #[.val (.ref o), .val (.int (Int32.ofNat i)), .val (.int j)] [(.ref o)]))) (fun t kt => ?_) ?_
  · show Steps p.tables e below (T30.setTop (mkF m 32 #[.val (.ref o), .val (.int (Int32.ofNat i)), .val (.int j)] [(.ref rs), (.int (Int32.ofNat k))])) _
    refine X30.arraylength hx (by rw [e30]; exact Ar31.1) (State.isArrayOf_alike hZ.alike Ar31.2.1) (g := (mkF m 32 #[.val (.ref o), .val (.int (Int32.ofNat i)), .val (.int j)] [(.ref rs), (.int (Int32.ofNat k))])) rfl rfl (own_hb hby d5_32) _ ?_
    rw [hln31]
    show Steps p.tables e below (T30.setTop (mkF m 33 #[.val (.ref o), .val (.int (Int32.ofNat i)), .val (.int j)] [(.int (Int32.ofNat cap)), (.int (Int32.ofNat k))])) _
    refine XS.icmpYes X30.here hx rfl (pc0 := 33) (pc' := 70) rfl (own_hb hby d5_33) rfl (feq (fun q => by have h2 := (own_eqN (by omega) (by omega)).mp q; omega)).2 (by decide) (by decide) ?_
    show Steps p.tables e below (T30.setTop (mkF m 70 #[.val (.ref o), .val (.int (Int32.ofNat i)), .val (.int j)] [])) _
    refine XS.aloadN X30.here hx rfl (own_hb hby d5_70) rfl rfl ?_
    exact kt
  obtain ⟨T32, X32, e32, st32⟩ := getF X30 hx hZ hown (host := "") (Or.inl (hw _ (List.mem_of_getElem? (i := 14) rfl))) Via.refl e30 pr1 (g := (mkF m 71 #[.val (.ref o), .val (.int (Int32.ofNat i)), .val (.int j)] [(.ref o)])) rfl rfl (own_hb hby d5_71)
  refine own_Go.of (S' := (T32.setTop (mkF m 74 #[.val (.ref o), .val (.int (Int32.ofNat i)), .val (.int j)] [(.ref rs)]))) st32 ?_
  refine own_Go.of (S' := (T32.setTop (mkF m 75 #[.val (.ref o), .val (.int (Int32.ofNat i)), .val (.int j)] [(.ref o), (.ref rs)]))) (fun t kt => ?_) ?_
  · show Steps p.tables e below (T32.setTop (mkF m 74 #[.val (.ref o), .val (.int (Int32.ofNat i)), .val (.int j)] [(.ref rs)])) _
    refine XS.aloadN X32.here hx rfl (own_hb hby d5_74) rfl rfl ?_
    exact kt
  obtain ⟨T33, X33, e33, st33⟩ := getF X32 hx hZ hown (host := "") (Or.inl (hw _ (List.mem_of_getElem? (i := 30) rfl))) Via.refl e32 pr3 (g := (mkF m 75 #[.val (.ref o), .val (.int (Int32.ofNat i)), .val (.int j)] [(.ref o), (.ref rs)])) rfl rfl (own_hb hby d5_75)
  refine own_Go.of (S' := (T33.setTop (mkF m 78 #[.val (.ref o), .val (.int (Int32.ofNat i)), .val (.int j)] [(.int (Int32.ofNat k)), (.ref rs)]))) st33 ?_
  refine own_Go.of (S' := (T33.setTop (mkF m 79 #[.val (.ref o), .val (.int (Int32.ofNat i)), .val (.int j)] [(.int (Int32.ofNat i)), (.int (Int32.ofNat k)), (.ref rs)]))) (fun t kt => ?_) ?_
  · show Steps p.tables e below (T33.setTop (mkF m 78 #[.val (.ref o), .val (.int (Int32.ofNat i)), .val (.int j)] [(.int (Int32.ofNat k)), (.ref rs)])) _
    refine XS.iloadN X33.here hx rfl (own_hb hby d5_78) rfl ?_
    exact kt
  obtain ⟨cl34, Ar34, hin34, ub34⟩ := own_Ar.put (j := (Int32.ofNat k)) (k := k) pr9 ⟨rfl, by omega⟩
  obtain ⟨T34, h34, X34, e34, W34, st34⟩ := stI X33 hx hZ e33 Ar34 (j := (Int32.ofNat k)) hin34 (g := (mkF m 79 #[.val (.ref o), .val (.int (Int32.ofNat i)), .val (.int j)] [(.int (Int32.ofNat i)), (.int (Int32.ofNat k)), (.ref rs)])) rfl rfl (own_hb hby d5_79)
  refine own_Go.of (S' := (T34.setTop (mkF m 80 #[.val (.ref o), .val (.int (Int32.ofNat i)), .val (.int j)] []))) st34 ?_
  have f35 : Exa Z h34 o "com/example/quayside/quayside/Row" := pr0.wr W34
  have f36 : Fld Z h34 o "com/example/quayside/quayside/Row" "starts" "[I" (.ref rs) := pr1.other W34 (Or.inl pr14)
  have f37 : Fld Z h34 o "com/example/quayside/quayside/Row" "ends" "[I" (.ref re) := pr2.other W34 (Or.inl pr14)
  have f38 : Fld Z h34 o "com/example/quayside/quayside/Row" "size" "I" (.int (Int32.ofNat k)) := pr3.other W34 (Or.inl pr14)
  have f39 : Fld Z h34 o "com/example/quayside/quayside/Row" "reach" "I" (.int r) := pr4.other W34 (Or.inl pr14)
  have f40 : Fld Z h34 o "com/example/quayside/quayside/Row" "text" "Z" (.int tx) := pr5.other W34 (Or.inl pr14)
  have f41 : Fld Z h34 o "com/example/quayside/quayside/Row" "bytes" "[B" (.ref bs) := pr6.other W34 (Or.inl pr14)
  have f42 : Fld Z h34 o "com/example/quayside/quayside/Row" "nulls" "[Z" nl := pr7.other W34 (Or.inl pr14)
  have f43 : Fld Z h34 o "com/example/quayside/quayside/Row" "nullCount" "I" (.int cn) := pr8.other W34 (Or.inl pr14)
  have f44 : own_Ar Z h34 re .int cap (own_I ge) := pr10.other W34 (Ne.symm pr16)
  have z45 : n0 ≤ h34.size := Nat.le_trans Z0 (Keep.of_wr W34).1
  have kp46 : Keep h0 h34 [o, rs, re] := kp0.wr W34 (Or.inl (List.mem_of_getElem? (i := 1) rfl))
  have f47 : own_Ar Z h34 rs .int cap (own_I (own_set gs k (Int32.ofNat i))) := by rw [← own_upI]; exact ub34 rfl W34
  have N34 := Fr.snoc X34 N0 pr12
  refine own_Go.of (S' := (T34.setTop (mkF m 81 #[.val (.ref o), .val (.int (Int32.ofNat i)), .val (.int j)] [(.ref o)]))) (fun t kt => ?_) ?_
  · show Steps p.tables e below (T34.setTop (mkF m 80 #[.val (.ref o), .val (.int (Int32.ofNat i)), .val (.int j)] [])) _
    refine XS.aloadN X34.here hx rfl (own_hb hby d5_80) rfl rfl ?_
    exact kt
  obtain ⟨T48, X48, e48, st48⟩ := getF X34 hx hZ hown (host := "") (Or.inl (hw _ (List.mem_of_getElem? (i := 16) rfl))) Via.refl e34 f37 (g := (mkF m 81 #[.val (.ref o), .val (.int (Int32.ofNat i)), .val (.int j)] [(.ref o)])) rfl rfl (own_hb hby d5_81)
  refine own_Go.of (S' := (T48.setTop (mkF m 84 #[.val (.ref o), .val (.int (Int32.ofNat i)), .val (.int j)] [(.ref re)]))) st48 ?_
  refine own_Go.of (S' := (T48.setTop (mkF m 85 #[.val (.ref o), .val (.int (Int32.ofNat i)), .val (.int j)] [(.ref o), (.ref re)]))) (fun t kt => ?_) ?_
  · show Steps p.tables e below (T48.setTop (mkF m 84 #[.val (.ref o), .val (.int (Int32.ofNat i)), .val (.int j)] [(.ref re)])) _
    refine XS.aloadN X48.here hx rfl (own_hb hby d5_84) rfl rfl ?_
    exact kt
  obtain ⟨T49, X49, e49, st49⟩ := getF X48 hx hZ hown (host := "") (Or.inl (hw _ (List.mem_of_getElem? (i := 30) rfl))) Via.refl e48 f38 (g := (mkF m 85 #[.val (.ref o), .val (.int (Int32.ofNat i)), .val (.int j)] [(.ref o), (.ref re)])) rfl rfl (own_hb hby d5_85)
  refine own_Go.of (S' := (T49.setTop (mkF m 88 #[.val (.ref o), .val (.int (Int32.ofNat i)), .val (.int j)] [(.int (Int32.ofNat k)), (.ref re)]))) st49 ?_
  refine own_Go.of (S' := (T49.setTop (mkF m 89 #[.val (.ref o), .val (.int (Int32.ofNat i)), .val (.int j)] [(.int j), (.int (Int32.ofNat k)), (.ref re)]))) (fun t kt => ?_) ?_
  · show Steps p.tables e below (T49.setTop (mkF m 88 #[.val (.ref o), .val (.int (Int32.ofNat i)), .val (.int j)] [(.int (Int32.ofNat k)), (.ref re)])) _
    refine XS.iloadN X49.here hx rfl (own_hb hby d5_88) rfl ?_
    exact kt
  obtain ⟨cl50, Ar50, hin50, ub50⟩ := own_Ar.put (j := (Int32.ofNat k)) (k := k) f44 ⟨rfl, by omega⟩
  obtain ⟨T50, h50, X50, e50, W50, st50⟩ := stI X49 hx hZ e49 Ar50 (j := (Int32.ofNat k)) hin50 (g := (mkF m 89 #[.val (.ref o), .val (.int (Int32.ofNat i)), .val (.int j)] [(.int j), (.int (Int32.ofNat k)), (.ref re)])) rfl rfl (own_hb hby d5_89)
  refine own_Go.of (S' := (T50.setTop (mkF m 90 #[.val (.ref o), .val (.int (Int32.ofNat i)), .val (.int j)] []))) st50 ?_
  have f51 : Exa Z h50 o "com/example/quayside/quayside/Row" := f35.wr W50
  have f52 : Fld Z h50 o "com/example/quayside/quayside/Row" "starts" "[I" (.ref rs) := f36.other W50 (Or.inl pr15)
  have f53 : Fld Z h50 o "com/example/quayside/quayside/Row" "ends" "[I" (.ref re) := f37.other W50 (Or.inl pr15)
  have f54 : Fld Z h50 o "com/example/quayside/quayside/Row" "size" "I" (.int (Int32.ofNat k)) := f38.other W50 (Or.inl pr15)
  have f55 : Fld Z h50 o "com/example/quayside/quayside/Row" "reach" "I" (.int r) := f39.other W50 (Or.inl pr15)
  have f56 : Fld Z h50 o "com/example/quayside/quayside/Row" "text" "Z" (.int tx) := f40.other W50 (Or.inl pr15)
  have f57 : Fld Z h50 o "com/example/quayside/quayside/Row" "bytes" "[B" (.ref bs) := f41.other W50 (Or.inl pr15)
  have f58 : Fld Z h50 o "com/example/quayside/quayside/Row" "nulls" "[Z" nl := f42.other W50 (Or.inl pr15)
  have f59 : Fld Z h50 o "com/example/quayside/quayside/Row" "nullCount" "I" (.int cn) := f43.other W50 (Or.inl pr15)
  have f60 : own_Ar Z h50 rs .int cap (own_I (own_set gs k (Int32.ofNat i))) := f47.other W50 pr16
  have z61 : n0 ≤ h50.size := Nat.le_trans z45 (Keep.of_wr W50).1
  have kp62 : Keep h0 h50 [o, rs, re] := kp46.wr W50 (Or.inl (List.mem_of_getElem? (i := 2) rfl))
  have f63 : own_Ar Z h50 re .int cap (own_I (own_set ge k j)) := by rw [← own_upI]; exact ub50 rfl W50
  have N50 := Fr.snoc X50 N34 pr13
  refine own_Go.of (S' := (T50.setTop (mkF m 92 #[.val (.ref o), .val (.int (Int32.ofNat i)), .val (.int j)] [(.ref o), (.ref o)]))) (fun t kt => ?_) ?_
  · show Steps p.tables e below (T50.setTop (mkF m 90 #[.val (.ref o), .val (.int (Int32.ofNat i)), .val (.int j)] [])) _
    refine XS.aloadN X50.here hx rfl (own_hb hby d5_90) rfl rfl ?_
    show Steps p.tables e below (T50.setTop (mkF m 91 #[.val (.ref o), .val (.int (Int32.ofNat i)), .val (.int j)] [(.ref o)])) _
    refine XS.dup X50.here hx rfl (own_hb hby d5_91) rfl rfl ?_
    exact kt
  obtain ⟨T64, X64, e64, st64⟩ := getF X50 hx hZ hown (host := "") (Or.inl (hw _ (List.mem_of_getElem? (i := 30) rfl))) Via.refl e50 f54 (g := (mkF m 92 #[.val (.ref o), .val (.int (Int32.ofNat i)), .val (.int j)] [(.ref o), (.ref o)])) rfl rfl (own_hb hby d5_92)
  refine own_Go.of (S' := (T64.setTop (mkF m 95 #[.val (.ref o), .val (.int (Int32.ofNat i)), .val (.int j)] [(.int (Int32.ofNat k)), (.ref o)]))) st64 ?_
  refine own_Go.of (S' := (T64.setTop (mkF m 97 #[.val (.ref o), .val (.int (Int32.ofNat i)), .val (.int j)] [(.int (Int32.ofNat (k + 1))), (.ref o)]))) (fun t kt => ?_) ?_
  · show Steps p.tables e below (T64.setTop (mkF m 95 #[.val (.ref o), .val (.int (Int32.ofNat i)), .val (.int j)] [(.int (Int32.ofNat k)), (.ref o)])) _
    refine XS.iconst X64.here hx rfl (own_hb hby d5_95) ?_
    show Steps p.tables e below (T64.setTop (mkF m 96 #[.val (.ref o), .val (.int (Int32.ofNat i)), .val (.int j)] [(.int (1 : Int32)), (.int (Int32.ofNat k)), (.ref o)])) _
    refine XS.iadd X64.here hx rfl (own_hb hby d5_96) rfl ?_
    show Steps p.tables e below (T64.setTop (mkF m 97 #[.val (.ref o), .val (.int (Int32.ofNat i)), .val (.int j)] [(.int ((Int32.ofNat k) + (1 : Int32))), (.ref o)])) _
    rw [show Int32.ofNat k + (1 : Int32) = Int32.ofNat (k + 1) from own_addN k 1]
    exact kt
  obtain ⟨T65, h65, X65, e65, W65, st65⟩ := putF X64 hx hZ hown (host := "") (Or.inl (hw _ (List.mem_of_getElem? (i := 30) rfl))) Via.refl e64 f54 f51 (Or.inl (hw _ (List.mem_of_getElem? (i := 31) rfl))) (hw _ (List.mem_of_getElem? (i := 2) rfl)) (ty := .int) (by decide) rfl rfl (g := (mkF m 97 #[.val (.ref o), .val (.int (Int32.ofNat i)), .val (.int j)] [(.int (Int32.ofNat (k + 1))), (.ref o)])) rfl rfl (own_hb hby d5_97)
  refine own_Go.of (S' := (T65.setTop (mkF m 100 #[.val (.ref o), .val (.int (Int32.ofNat i)), .val (.int j)] []))) st65 ?_
  have f66 : Exa Z h65 o "com/example/quayside/quayside/Row" := f51.wr W65
  have f67 : Fld Z h65 o "com/example/quayside/quayside/Row" "starts" "[I" (.ref rs) := f52.other W65 (Or.inr (slot_ne (Or.inl (hw _ (List.mem_of_getElem? (i := 15) rfl))) (Or.inl (hw _ (List.mem_of_getElem? (i := 31) rfl))) (by decide) (t := (.array .int)) (t' := .int) (by decide) (by decide)))
  have f68 : Fld Z h65 o "com/example/quayside/quayside/Row" "ends" "[I" (.ref re) := f53.other W65 (Or.inr (slot_ne (Or.inl (hw _ (List.mem_of_getElem? (i := 17) rfl))) (Or.inl (hw _ (List.mem_of_getElem? (i := 31) rfl))) (by decide) (t := (.array .int)) (t' := .int) (by decide) (by decide)))
  have f69 : Fld Z h65 o "com/example/quayside/quayside/Row" "reach" "I" (.int r) := f55.other W65 (Or.inr (slot_ne (Or.inl (hw _ (List.mem_of_getElem? (i := 33) rfl))) (Or.inl (hw _ (List.mem_of_getElem? (i := 31) rfl))) (by decide) (t := .int) (t' := .int) (by decide) (by decide)))
  have f70 : Fld Z h65 o "com/example/quayside/quayside/Row" "text" "Z" (.int tx) := f56.other W65 (Or.inr (slot_ne (Or.inl (hw _ (List.mem_of_getElem? (i := 39) rfl))) (Or.inl (hw _ (List.mem_of_getElem? (i := 31) rfl))) (by decide) (t := .boolean) (t' := .int) (by decide) (by decide)))
  have f71 : Fld Z h65 o "com/example/quayside/quayside/Row" "bytes" "[B" (.ref bs) := f57.other W65 (Or.inr (slot_ne (Or.inl (hw _ (List.mem_of_getElem? (i := 12) rfl))) (Or.inl (hw _ (List.mem_of_getElem? (i := 31) rfl))) (by decide) (t := (.array .byte)) (t' := .int) (by decide) (by decide)))
  have f72 : Fld Z h65 o "com/example/quayside/quayside/Row" "nulls" "[Z" nl := f58.other W65 (Or.inr (slot_ne (Or.inl (hw _ (List.mem_of_getElem? (i := 65) rfl))) (Or.inl (hw _ (List.mem_of_getElem? (i := 31) rfl))) (by decide) (t := (.array .boolean)) (t' := .int) (by decide) (by decide)))
  have f73 : Fld Z h65 o "com/example/quayside/quayside/Row" "nullCount" "I" (.int cn) := f59.other W65 (Or.inr (slot_ne (Or.inl (hw _ (List.mem_of_getElem? (i := 52) rfl))) (Or.inl (hw _ (List.mem_of_getElem? (i := 31) rfl))) (by decide) (t := .int) (t' := .int) (by decide) (by decide)))
  have f74 : own_Ar Z h65 rs .int cap (own_I (own_set gs k (Int32.ofNat i))) := f60.other W65 (Ne.symm pr14)
  have f75 : own_Ar Z h65 re .int cap (own_I (own_set ge k j)) := f63.other W65 (Ne.symm pr15)
  have z76 : n0 ≤ h65.size := Nat.le_trans z61 (Keep.of_wr W65).1
  have kp77 : Keep h0 h65 [o, rs, re] := kp62.wr W65 (Or.inl (List.mem_of_getElem? (i := 0) rfl))
  have f78 : Fld Z h65 o "com/example/quayside/quayside/Row" "size" "I" (.int (Int32.ofNat (k + 1))) := f54.same W65
  have N65 := Fr.snoc X65 N50 pr11
  refine own_Go.of (S' := (T65.setTop (mkF m 102 #[.val (.ref o), .val (.int (Int32.ofNat i)), .val (.int j)] [(.ref o), (.ref o)]))) (fun t kt => ?_) ?_
  · show Steps p.tables e below (T65.setTop (mkF m 100 #[.val (.ref o), .val (.int (Int32.ofNat i)), .val (.int j)] [])) _
    refine XS.aloadN X65.here hx rfl (own_hb hby d5_100) rfl rfl ?_
    show Steps p.tables e below (T65.setTop (mkF m 101 #[.val (.ref o), .val (.int (Int32.ofNat i)), .val (.int j)] [(.ref o)])) _
    refine XS.aloadN X65.here hx rfl (own_hb hby d5_101) rfl rfl ?_
    exact kt
  obtain ⟨T79, X79, e79, st79⟩ := getF X65 hx hZ hown (host := "") (Or.inl (hw _ (List.mem_of_getElem? (i := 32) rfl))) Via.refl e65 f69 (g := (mkF m 102 #[.val (.ref o), .val (.int (Int32.ofNat i)), .val (.int j)] [(.ref o), (.ref o)])) rfl rfl (own_hb hby d5_102)
  refine own_Go.of (S' := (T79.setTop (mkF m 105 #[.val (.ref o), .val (.int (Int32.ofNat i)), .val (.int j)] [(.int r), (.ref o)]))) st79 ?_
  refine own_Go.of (S' := (T79.setTop (mkF m 106 #[.val (.ref o), .val (.int (Int32.ofNat i)), .val (.int j)] [(.int j), (.int r), (.ref o)]))) (fun t kt => ?_) ?_
  · show Steps p.tables e below (T79.setTop (mkF m 105 #[.val (.ref o), .val (.int (Int32.ofNat i)), .val (.int j)] [(.int r), (.ref o)])) _
    refine XS.iloadN X79.here hx rfl (own_hb hby d5_105) rfl ?_
    exact kt
  obtain ⟨_, _, ⟨T80, L80, k80, n80⟩, -, X80, ⟨Lc80, hQ80, l80, y80, z80⟩, st80⟩ := Jvm.LawKit.callS X79 hx (y := (⟨"java/lang/Math", "max", "(II)I"⟩ : MethodName)) hown (mvT hZ (hw _ (List.mem_of_getElem? (i := 34) rfl))) (mvT hZ (hw _ (List.mem_of_getElem? (i := 35) rfl))) (mvT hZ (hw _ (List.mem_of_getElem? (i := 36) rfl))) (mvT hZ (hw _ (List.mem_of_getElem? (i := 37) rfl))) (by decide) (backOf (W := 1) (rm6 l Z a0 hw [] r j h65 n0 z76 ) hZ (hw _ (List.mem_of_getElem? (i := 37) rfl)) (hw _ (List.mem_of_getElem? (i := 36) rfl)) (by decide) (by decide)) (g := (mkF m 106 #[.val (.ref o), .val (.int (Int32.ofNat i)), .val (.int j)] [(.int j), (.int r), (.ref o)])) rfl (by rw [hml]; rfl) (argsL := [(.int r), (.int j)]) (rest := [(.ref o)]) (lenOf pd_0 rfl) rfl (by show 2 * 0 + _ ≤ _; exact Nat.le_of_eq rfl) (own_hb hby d5_106) (fun _ _ => ⟨rfl, e79, (by decide : 0 + 0 ≤ _), (by decide : 0 + 0 ≤ _)⟩)
  dsimp only [Pt.U, Pt.locs, Pt.cells, Pt.slots] at X80 l80 y80 z80 st80 hQ80
  subst l80 y80 z80
  obtain ⟨rfl, N80q, hh80⟩ := hQ80
  have N80 := Fr.app N65 N80q
  refine own_Go.of (S' := (T80.setTop (mkF m 109 #[.val (.ref o), .val (.int (Int32.ofNat i)), .val (.int j)] [(.int (own_maxI r j)), (.ref o)]))) (fun t kt => st80 t kt) ?_
  obtain ⟨T81, h81, X81, e81, W81, st81⟩ := putF X80 hx hZ hown (host := "") (Or.inl (hw _ (List.mem_of_getElem? (i := 32) rfl))) Via.refl hh80 f69 f66 (Or.inl (hw _ (List.mem_of_getElem? (i := 33) rfl))) (hw _ (List.mem_of_getElem? (i := 2) rfl)) (ty := .int) (by decide) rfl rfl (g := (mkF m 109 #[.val (.ref o), .val (.int (Int32.ofNat i)), .val (.int j)] [(.int (own_maxI r j)), (.ref o)])) rfl rfl (own_hb hby d5_109)
  refine own_Go.of (S' := (T81.setTop (mkF m 112 #[.val (.ref o), .val (.int (Int32.ofNat i)), .val (.int j)] []))) st81 ?_
  have f82 : Exa Z h81 o "com/example/quayside/quayside/Row" := f66.wr W81
  have f83 : Fld Z h81 o "com/example/quayside/quayside/Row" "starts" "[I" (.ref rs) := f67.other W81 (Or.inr (slot_ne (Or.inl (hw _ (List.mem_of_getElem? (i := 15) rfl))) (Or.inl (hw _ (List.mem_of_getElem? (i := 33) rfl))) (by decide) (t := (.array .int)) (t' := .int) (by decide) (by decide)))
  have f84 : Fld Z h81 o "com/example/quayside/quayside/Row" "ends" "[I" (.ref re) := f68.other W81 (Or.inr (slot_ne (Or.inl (hw _ (List.mem_of_getElem? (i := 17) rfl))) (Or.inl (hw _ (List.mem_of_getElem? (i := 33) rfl))) (by decide) (t := (.array .int)) (t' := .int) (by decide) (by decide)))
  have f85 : Fld Z h81 o "com/example/quayside/quayside/Row" "size" "I" (.int (Int32.ofNat (k + 1))) := f78.other W81 (Or.inr (slot_ne (Or.inl (hw _ (List.mem_of_getElem? (i := 31) rfl))) (Or.inl (hw _ (List.mem_of_getElem? (i := 33) rfl))) (by decide) (t := .int) (t' := .int) (by decide) (by decide)))
  have f86 : Fld Z h81 o "com/example/quayside/quayside/Row" "text" "Z" (.int tx) := f70.other W81 (Or.inr (slot_ne (Or.inl (hw _ (List.mem_of_getElem? (i := 39) rfl))) (Or.inl (hw _ (List.mem_of_getElem? (i := 33) rfl))) (by decide) (t := .boolean) (t' := .int) (by decide) (by decide)))
  have f87 : Fld Z h81 o "com/example/quayside/quayside/Row" "bytes" "[B" (.ref bs) := f71.other W81 (Or.inr (slot_ne (Or.inl (hw _ (List.mem_of_getElem? (i := 12) rfl))) (Or.inl (hw _ (List.mem_of_getElem? (i := 33) rfl))) (by decide) (t := (.array .byte)) (t' := .int) (by decide) (by decide)))
  have f88 : Fld Z h81 o "com/example/quayside/quayside/Row" "nulls" "[Z" nl := f72.other W81 (Or.inr (slot_ne (Or.inl (hw _ (List.mem_of_getElem? (i := 65) rfl))) (Or.inl (hw _ (List.mem_of_getElem? (i := 33) rfl))) (by decide) (t := (.array .boolean)) (t' := .int) (by decide) (by decide)))
  have f89 : Fld Z h81 o "com/example/quayside/quayside/Row" "nullCount" "I" (.int cn) := f73.other W81 (Or.inr (slot_ne (Or.inl (hw _ (List.mem_of_getElem? (i := 52) rfl))) (Or.inl (hw _ (List.mem_of_getElem? (i := 33) rfl))) (by decide) (t := .int) (t' := .int) (by decide) (by decide)))
  have f90 : own_Ar Z h81 rs .int cap (own_I (own_set gs k (Int32.ofNat i))) := f74.other W81 (Ne.symm pr14)
  have f91 : own_Ar Z h81 re .int cap (own_I (own_set ge k j)) := f75.other W81 (Ne.symm pr15)
  have z92 : n0 ≤ h81.size := Nat.le_trans z76 (Keep.of_wr W81).1
  have kp93 : Keep h0 h81 [o, rs, re] := kp77.wr W81 (Or.inl (List.mem_of_getElem? (i := 0) rfl))
  have f94 : Fld Z h81 o "com/example/quayside/quayside/Row" "reach" "I" (.int (own_maxI r j)) := f69.same W81
  have N81 := Fr.snoc X81 N80 pr11
  refine own_Go.of (S' := (T81.setTop (mkF m 114 #[.val (.ref o), .val (.int (Int32.ofNat i)), .val (.int j)] [(.int (0 : Int32)), (.ref o)]))) (fun t kt => ?_) ?_
  · show Steps p.tables e below (T81.setTop (mkF m 112 #[.val (.ref o), .val (.int (Int32.ofNat i)), .val (.int j)] [])) _
    refine XS.aloadN X81.here hx rfl (own_hb hby d5_112) rfl rfl ?_
    show Steps p.tables e below (T81.setTop (mkF m 113 #[.val (.ref o), .val (.int (Int32.ofNat i)), .val (.int j)] [(.ref o)])) _
    refine XS.iconst X81.here hx rfl (own_hb hby d5_113) ?_
    exact kt
  obtain ⟨T95, h95, X95, e95, W95, st95⟩ := putFN X81 hx hZ hown (hw _ (List.mem_of_getElem? (i := 38) rfl)) Via.refl e81 f86 f82 (Or.inl (hw _ (List.mem_of_getElem? (i := 39) rfl))) (hw _ (List.mem_of_getElem? (i := 2) rfl)) (ty := .boolean) (v' := (.int (nar .boolean (0 : Int32)))) (by decide) rfl (fits_nar_bool _) (g := (mkF m 114 #[.val (.ref o), .val (.int (Int32.ofNat i)), .val (.int j)] [(.int (0 : Int32)), (.ref o)])) rfl rfl (own_hb hby d5_114)
  refine own_Go.of (S' := (T95.setTop (mkF m 117 #[.val (.ref o), .val (.int (Int32.ofNat i)), .val (.int j)] []))) st95 ?_
  have f96 : Exa Z h95 o "com/example/quayside/quayside/Row" := f82.wr W95
  have f97 : Fld Z h95 o "com/example/quayside/quayside/Row" "starts" "[I" (.ref rs) := f83.other W95 (Or.inr (slot_ne (Or.inl (hw _ (List.mem_of_getElem? (i := 15) rfl))) (Or.inl (hw _ (List.mem_of_getElem? (i := 39) rfl))) (by decide) (t := (.array .int)) (t' := .boolean) (by decide) (by decide)))
  have f98 : Fld Z h95 o "com/example/quayside/quayside/Row" "ends" "[I" (.ref re) := f84.other W95 (Or.inr (slot_ne (Or.inl (hw _ (List.mem_of_getElem? (i := 17) rfl))) (Or.inl (hw _ (List.mem_of_getElem? (i := 39) rfl))) (by decide) (t := (.array .int)) (t' := .boolean) (by decide) (by decide)))
  have f99 : Fld Z h95 o "com/example/quayside/quayside/Row" "size" "I" (.int (Int32.ofNat (k + 1))) := f85.other W95 (Or.inr (slot_ne (Or.inl (hw _ (List.mem_of_getElem? (i := 31) rfl))) (Or.inl (hw _ (List.mem_of_getElem? (i := 39) rfl))) (by decide) (t := .int) (t' := .boolean) (by decide) (by decide)))
  have f100 : Fld Z h95 o "com/example/quayside/quayside/Row" "reach" "I" (.int (own_maxI r j)) := f94.other W95 (Or.inr (slot_ne (Or.inl (hw _ (List.mem_of_getElem? (i := 33) rfl))) (Or.inl (hw _ (List.mem_of_getElem? (i := 39) rfl))) (by decide) (t := .int) (t' := .boolean) (by decide) (by decide)))
  have f101 : Fld Z h95 o "com/example/quayside/quayside/Row" "bytes" "[B" (.ref bs) := f87.other W95 (Or.inr (slot_ne (Or.inl (hw _ (List.mem_of_getElem? (i := 12) rfl))) (Or.inl (hw _ (List.mem_of_getElem? (i := 39) rfl))) (by decide) (t := (.array .byte)) (t' := .boolean) (by decide) (by decide)))
  have f102 : Fld Z h95 o "com/example/quayside/quayside/Row" "nulls" "[Z" nl := f88.other W95 (Or.inr (slot_ne (Or.inl (hw _ (List.mem_of_getElem? (i := 65) rfl))) (Or.inl (hw _ (List.mem_of_getElem? (i := 39) rfl))) (by decide) (t := (.array .boolean)) (t' := .boolean) (by decide) (by decide)))
  have f103 : Fld Z h95 o "com/example/quayside/quayside/Row" "nullCount" "I" (.int cn) := f89.other W95 (Or.inr (slot_ne (Or.inl (hw _ (List.mem_of_getElem? (i := 52) rfl))) (Or.inl (hw _ (List.mem_of_getElem? (i := 39) rfl))) (by decide) (t := .int) (t' := .boolean) (by decide) (by decide)))
  have f104 : own_Ar Z h95 rs .int cap (own_I (own_set gs k (Int32.ofNat i))) := f90.other W95 (Ne.symm pr14)
  have f105 : own_Ar Z h95 re .int cap (own_I (own_set ge k j)) := f91.other W95 (Ne.symm pr15)
  have z106 : n0 ≤ h95.size := Nat.le_trans z92 (Keep.of_wr W95).1
  have kp107 : Keep h0 h95 [o, rs, re] := kp93.wr W95 (Or.inl (List.mem_of_getElem? (i := 0) rfl))
  have f108 : Fld Z h95 o "com/example/quayside/quayside/Row" "text" "Z" (.int (nar .boolean (0 : Int32))) := f86.same W95
  have N95 := Fr.snoc X95 N81 pr11
  have f109 : Fld Z h95 o "com/example/quayside/quayside/Row" "text" "Z" (.int (0 : Int32)) := f108
  exact own_retV X95 hx hlk hret (own_hb hby d5_117) e95 ⟨rfl, N95, kp107, f96, f97, f98, f99, f100, f109, f101, f102, f103, f104, f105⟩ (by decide) (by decide)
theorem pd_1 : parseMethodDescriptor "([II)[I" = some ⟨[(.array .int), .int], some (.array .int)⟩ := by decide +kernel
def Q_rm5g (Z : State) (o : Addr) (i : Nat) (j : Int32) (rs : Addr) (re : Addr) (k : Nat) (cap : Nat) (gs : Nat → Int32) (ge : Nat → Int32) (r : Int32) (tx : Int32) (bs : Addr) (nl : Value) (cn : Int32) (h0 : Heap) (n0 : Nat) (v : Option Value) (h : Heap) (L : List Loc) : Prop := ∃ rs' : Addr, ∃ re' : Addr, v = none ∧ Fr n0 L ∧ Keep h0 h [o] ∧ (h0.size ≤ rs') ∧ (h0.size ≤ re') ∧ (rs' ≠ re') ∧ (Exa Z h o "com/example/quayside/quayside/Row") ∧ (Fld Z h o "com/example/quayside/quayside/Row" "starts" "[I" (.ref rs')) ∧ (Fld Z h o "com/example/quayside/quayside/Row" "ends" "[I" (.ref re')) ∧ (Fld Z h o "com/example/quayside/quayside/Row" "size" "I" (.int (Int32.ofNat (k + 1)))) ∧ (Fld Z h o "com/example/quayside/quayside/Row" "reach" "I" (.int (own_maxI r j))) ∧ (Fld Z h o "com/example/quayside/quayside/Row" "text" "Z" (.int (0 : Int32))) ∧ (Fld Z h o "com/example/quayside/quayside/Row" "bytes" "[B" (.ref bs)) ∧ (Fld Z h o "com/example/quayside/quayside/Row" "nulls" "[Z" nl) ∧ (Fld Z h o "com/example/quayside/quayside/Row" "nullCount" "I" (.int cn)) ∧ (own_Ar Z h rs' .int (2 * k) (own_I (own_set (own_cpy gs cap) k (Int32.ofNat i)))) ∧ (own_Ar Z h re' .int (2 * k) (own_I (own_set (own_cpy ge cap) k j)))
set_option maxRecDepth 65536 in
set_option maxHeartbeats 40000000 in
theorem rm5g (l : Launch) (Z : State) (a0 : Array Value) (hw : ∀ d ∈ tables_1, d.before a0 Z = true) (ws : List Jvm.Cond) (o : Addr) (i : Nat) (j : Int32) (rs : Addr) (re : Addr) (k : Nat) (cap : Nat) (gs : Nat → Int32) (ge : Nat → Int32) (r : Int32) (tx : Int32) (bs : Addr) (nl : Value) (cn : Int32) (h0 : Heap) (n0 : Nat) (Z0 : n0 ≤ h0.size) (pr0 : Exa Z h0 o "com/example/quayside/quayside/Row") (pr1 : Fld Z h0 o "com/example/quayside/quayside/Row" "starts" "[I" (.ref rs)) (pr2 : Fld Z h0 o "com/example/quayside/quayside/Row" "ends" "[I" (.ref re)) (pr3 : Fld Z h0 o "com/example/quayside/quayside/Row" "size" "I" (.int (Int32.ofNat k))) (pr4 : Fld Z h0 o "com/example/quayside/quayside/Row" "reach" "I" (.int r)) (pr5 : Fld Z h0 o "com/example/quayside/quayside/Row" "text" "Z" (.int tx)) (pr6 : Fld Z h0 o "com/example/quayside/quayside/Row" "bytes" "[B" (.ref bs)) (pr7 : Fld Z h0 o "com/example/quayside/quayside/Row" "nulls" "[Z" nl) (pr8 : Fld Z h0 o "com/example/quayside/quayside/Row" "nullCount" "I" (.int cn)) (pr9 : own_Ar Z h0 rs .int cap (own_I gs)) (pr10 : own_Ar Z h0 re .int cap (own_I ge)) (pr11 : n0 ≤ o) (pr12 : n0 ≤ rs) (pr13 : n0 ≤ re) (pr14 : o ≠ rs) (pr15 : o ≠ re) (pr16 : rs ≠ re) (hi : i < 2 ^ 31) (hij : ¬ j < Int32.ofNat i) (hk : k = cap) (hc : cap = 4) :
    own_Met l Z h0 (⟨"com/example/quayside/quayside/Row", "add", "(II)V"⟩ : MethodName) prog_62_method_3_code 3 none ws ({ frames := 2, cells := 2, slots := 16, locals := 33 } : Room) #[(.ref o), (.int (Int32.ofNat i)), (.int j)] (Q_rm5g Z o i j rs re k cap gs ge r tx bs nl cn h0 n0) := by
  refine own_enter (plainFor_of_name pn_5) ?_
  intro p e s m below meth c T0 X0 hx hby hml hret hlk hown hnm hZ e0
  have N0 := Fr.nil n0
  have kp0 : Keep h0 h0 [o] := Keep.refl h0 _
  rw [show entryFrame m #[(.ref o), (.int (Int32.ofNat i)), (.int j)] 3 = (mkF m 0 #[.val (.ref o), .val (.int (Int32.ofNat i)), .val (.int j)] []) from by first | (simp [entryFrame, mkF, argsToLocals, Value.category]; done) | rfl]
  refine own_Go.of (S' := (T0.setTop (mkF m 25 #[.val (.ref o), .val (.int (Int32.ofNat i)), .val (.int j)] [(.ref o)]))) (fun t kt => ?_) ?_
  · show Steps p.tables e below (T0.setTop (mkF m 0 #[.val (.ref o), .val (.int (Int32.ofNat i)), .val (.int j)] [])) _
    refine XS.iloadN X0.here hx rfl (own_hb hby d5_0) rfl ?_
    show Steps p.tables e below (T0.setTop (mkF m 1 #[.val (.ref o), .val (.int (Int32.ofNat i)), .val (.int j)] [(.int (Int32.ofNat i))])) _
    refine XS.ifNo X0.here hx rfl (own_hb hby d5_1) rfl ((if0 _ _).trans (flt (fun q => by have h2 := (own_ltN (b := 0) hi (by decide)).mp q; omega)).1) ?_
    show Steps p.tables e below (T0.setTop (mkF m 4 #[.val (.ref o), .val (.int (Int32.ofNat i)), .val (.int j)] [])) _
    refine XS.iloadN X0.here hx rfl (own_hb hby d5_4) rfl ?_
    show Steps p.tables e below (T0.setTop (mkF m 5 #[.val (.ref o), .val (.int (Int32.ofNat i)), .val (.int j)] [(.int j)])) _
    refine XS.iloadN X0.here hx rfl (own_hb hby d5_5) rfl ?_
    show Steps p.tables e below (T0.setTop (mkF m 6 #[.val (.ref o), .val (.int (Int32.ofNat i)), .val (.int j)] [(.int (Int32.ofNat i)), (.int j)])) _
    refine XS.icmpYes X0.here hx rfl (pc0 := 6) (pc' := 24) rfl (own_hb hby d5_6) rfl (flt hij).2.1 (by decide) (by decide) ?_
    show Steps p.tables e below (T0.setTop (mkF m 24 #[.val (.ref o), .val (.int (Int32.ofNat i)), .val (.int j)] [])) _
    refine XS.aloadN X0.here hx rfl (own_hb hby d5_24) rfl rfl ?_
    exact kt
  obtain ⟨T110, X110, e110, st110⟩ := getF X0 hx hZ hown (host := "") (Or.inl (hw _ (List.mem_of_getElem? (i := 30) rfl))) Via.refl e0 pr3 (g := (mkF m 25 #[.val (.ref o), .val (.int (Int32.ofNat i)), .val (.int j)] [(.ref o)])) rfl rfl (own_hb hby d5_25)
  refine own_Go.of (S' := (T110.setTop (mkF m 28 #[.val (.ref o), .val (.int (Int32.ofNat i)), .val (.int j)] [(.int (Int32.ofNat k))]))) st110 ?_
  refine own_Go.of (S' := (T110.setTop (mkF m 29 #[.val (.ref o), .val (.int (Int32.ofNat i)), .val (.int j)] [(.ref o), (.int (Int32.ofNat k))]))) (fun t kt => ?_) ?_
  · show Steps p.tables e below (T110.setTop (mkF m 28 #[.val (.ref o), .val (.int (Int32.ofNat i)), .val (.int j)] [(.int (Int32.ofNat k))])) _
    refine XS.aloadN X110.here hx rfl (own_hb hby d5_28) rfl rfl ?_
    exact kt
  obtain ⟨T111, X111, e111, st111⟩ := getF X110 hx hZ hown (host := "") (Or.inl (hw _ (List.mem_of_getElem? (i := 14) rfl))) Via.refl e110 pr1 (g := (mkF m 29 #[.val (.ref o), .val (.int (Int32.ofNat i)), .val (.int j)] [(.ref o), (.int (Int32.ofNat k))])) rfl rfl (own_hb hby d5_29)
  refine own_Go.of (S' := (T111.setTop (mkF m 32 #[.val (.ref o), .val (.int (Int32.ofNat i)), .val (.int j)] [(.ref rs), (.int (Int32.ofNat k))]))) st111 ?_
  obtain ⟨cl112, Ar112, hln112⟩ := own_Ar.len pr9
  refine own_Go.of (S' := (T111.setTop (mkF m 38 #[.val (.ref o), .val (.int (Int32.ofNat i)), .val (.int j)] [(.ref o), (.ref o)]))) (fun t kt => ?_) ?_
  · show Steps p.tables e below (T111.setTop (mkF m 32 #[.val (.ref o), .val (.int (Int32.ofNat i)), .val (.int j)] [(.ref rs), (.int (Int32.ofNat k))])) _
    refine X111.arraylength hx (by rw [e111]; exact Ar112.1) (State.isArrayOf_alike hZ.alike Ar112.2.1) (g := (mkF m 32 #[.val (.ref o), .val (.int (Int32.ofNat i)), .val (.int j)] [(.ref rs), (.int (Int32.ofNat k))])) rfl rfl (own_hb hby d5_32) _ ?_
    rw [hln112]
    show Steps p.tables e below (T111.setTop (mkF m 33 #[.val (.ref o), .val (.int (Int32.ofNat i)), .val (.int j)] [(.int (Int32.ofNat cap)), (.int (Int32.ofNat k))])) _
    refine XS.icmpNo X111.here hx rfl (own_hb hby d5_33) rfl (teq (own_eqN' hk)).2 ?_
    show Steps p.tables e below (T111.setTop (mkF m 36 #[.val (.ref o), .val (.int (Int32.ofNat i)), .val (.int j)] [])) _
    refine XS.aloadN X111.here hx rfl (own_hb hby d5_36) rfl rfl ?_
    show Steps p.tables e below (T111.setTop (mkF m 37 #[.val (.ref o), .val (.int (Int32.ofNat i)), .val (.int j)] [(.ref o)])) _
    refine XS.aloadN X111.here hx rfl (own_hb hby d5_37) rfl rfl ?_
    exact kt
  obtain ⟨T113, X113, e113, st113⟩ := getF X111 hx hZ hown (host := "") (Or.inl (hw _ (List.mem_of_getElem? (i := 14) rfl))) Via.refl e111 pr1 (g := (mkF m 38 #[.val (.ref o), .val (.int (Int32.ofNat i)), .val (.int j)] [(.ref o), (.ref o)])) rfl rfl (own_hb hby d5_38)
  refine own_Go.of (S' := (T113.setTop (mkF m 41 #[.val (.ref o), .val (.int (Int32.ofNat i)), .val (.int j)] [(.ref rs), (.ref o)]))) st113 ?_
  refine own_Go.of (S' := (T113.setTop (mkF m 43 #[.val (.ref o), .val (.int (Int32.ofNat i)), .val (.int j)] [(.ref o), (.int (2 : Int32)), (.ref rs), (.ref o)]))) (fun t kt => ?_) ?_
  · show Steps p.tables e below (T113.setTop (mkF m 41 #[.val (.ref o), .val (.int (Int32.ofNat i)), .val (.int j)] [(.ref rs), (.ref o)])) _
    refine XS.iconst X113.here hx rfl (own_hb hby d5_41) ?_
    show Steps p.tables e below (T113.setTop (mkF m 42 #[.val (.ref o), .val (.int (Int32.ofNat i)), .val (.int j)] [(.int (2 : Int32)), (.ref rs), (.ref o)])) _
    refine XS.aloadN X113.here hx rfl (own_hb hby d5_42) rfl rfl ?_
    exact kt
  obtain ⟨T114, X114, e114, st114⟩ := getF X113 hx hZ hown (host := "") (Or.inl (hw _ (List.mem_of_getElem? (i := 30) rfl))) Via.refl e113 pr3 (g := (mkF m 43 #[.val (.ref o), .val (.int (Int32.ofNat i)), .val (.int j)] [(.ref o), (.int (2 : Int32)), (.ref rs), (.ref o)])) rfl rfl (own_hb hby d5_43)
  refine own_Go.of (S' := (T114.setTop (mkF m 46 #[.val (.ref o), .val (.int (Int32.ofNat i)), .val (.int j)] [(.int (Int32.ofNat k)), (.int (2 : Int32)), (.ref rs), (.ref o)]))) st114 ?_
  refine own_Go.of (S' := (T114.setTop (mkF m 47 #[.val (.ref o), .val (.int (Int32.ofNat i)), .val (.int j)] [(.int (Int32.ofNat (2 * k))), (.ref rs), (.ref o)]))) (fun t kt => ?_) ?_
  · show Steps p.tables e below (T114.setTop (mkF m 46 #[.val (.ref o), .val (.int (Int32.ofNat i)), .val (.int j)] [(.int (Int32.ofNat k)), (.int (2 : Int32)), (.ref rs), (.ref o)])) _
    refine XS.imul X114.here hx rfl (own_hb hby d5_46) rfl ?_
    show Steps p.tables e below (T114.setTop (mkF m 47 #[.val (.ref o), .val (.int (Int32.ofNat i)), .val (.int j)] [(.int ((2 : Int32) * (Int32.ofNat k))), (.ref rs), (.ref o)])) _
    rw [show (2 : Int32) * Int32.ofNat k = Int32.ofNat (2 * k) from (Int32.ofNat_mul 2 k).symm]
    exact kt
  obtain ⟨_, _, ⟨T115, L115, k115, n115⟩, -, X115, ⟨Lc115, hQ115, l115, y115, z115⟩, st115⟩ := Jvm.LawKit.callS X114 hx (y := (⟨"java/util/Arrays", "copyOf", "([II)[I"⟩ : MethodName)) hown (mvT hZ (hw _ (List.mem_of_getElem? (i := 77) rfl))) (mvT hZ (hw _ (List.mem_of_getElem? (i := 78) rfl))) (mvT hZ (hw _ (List.mem_of_getElem? (i := 68) rfl))) (mvT hZ (hw _ (List.mem_of_getElem? (i := 79) rfl))) (by decide) (backOf (W := 1) (rm13 l Z a0 hw [] rs (2 * k) cap gs h0 n0 Z0 pr9 (by omega) (by omega)) hZ (hw _ (List.mem_of_getElem? (i := 79) rfl)) (hw _ (List.mem_of_getElem? (i := 68) rfl)) (by decide) (by decide)) (g := (mkF m 47 #[.val (.ref o), .val (.int (Int32.ofNat i)), .val (.int j)] [(.int (Int32.ofNat (2 * k))), (.ref rs), (.ref o)])) rfl (by rw [hml]; rfl) (argsL := [(.ref rs), (.int (Int32.ofNat (2 * k)))]) (rest := [(.ref o)]) (lenOf pd_1 rfl) rfl (by show 2 * 0 + _ ≤ _; exact Nat.le_of_eq rfl) (own_hb hby d5_47) (fun _ _ => ⟨rfl, e114, (by decide : 0 + 1 ≤ _), (by decide : 0 + 8 ≤ _)⟩)
  dsimp only [Pt.U, Pt.locs, Pt.cells, Pt.slots] at X115 l115 y115 z115 st115 hQ115
  subst l115 y115 z115
  obtain ⟨b115, rfl, N115q, K115, p115_0, p115_1⟩ := hQ115
  have N115 := Fr.app N0 N115q
  refine own_Go.of (S' := (T115.setTop (mkF m 50 #[.val (.ref o), .val (.int (Int32.ofNat i)), .val (.int j)] [(.ref b115), (.ref o)]))) (fun t kt => st115 t kt) ?_
  have gx116 : n0 ≤ b115 := Nat.le_trans Z0 p115_0
  have ne117 : o ≠ b115 := Nat.ne_of_lt (Nat.lt_of_lt_of_le pr0.lt p115_0)
  have ne118 : rs ≠ b115 := Nat.ne_of_lt (Nat.lt_of_lt_of_le pr9.lt p115_0)
  have ne119 : re ≠ b115 := Nat.ne_of_lt (Nat.lt_of_lt_of_le pr10.lt p115_0)
  have sz120 : h0.size ≤ b115 := Nat.le_trans kp0.1 p115_0
  have f121 : Exa Z T115.heap o "com/example/quayside/quayside/Row" := pr0.keep K115
  have f122 : Fld Z T115.heap o "com/example/quayside/quayside/Row" "starts" "[I" (.ref rs) := pr1.keep K115 nin0
  have f123 : Fld Z T115.heap o "com/example/quayside/quayside/Row" "ends" "[I" (.ref re) := pr2.keep K115 nin0
  have f124 : Fld Z T115.heap o "com/example/quayside/quayside/Row" "size" "I" (.int (Int32.ofNat k)) := pr3.keep K115 nin0
  have f125 : Fld Z T115.heap o "com/example/quayside/quayside/Row" "reach" "I" (.int r) := pr4.keep K115 nin0
  have f126 : Fld Z T115.heap o "com/example/quayside/quayside/Row" "text" "Z" (.int tx) := pr5.keep K115 nin0
  have f127 : Fld Z T115.heap o "com/example/quayside/quayside/Row" "bytes" "[B" (.ref bs) := pr6.keep K115 nin0
  have f128 : Fld Z T115.heap o "com/example/quayside/quayside/Row" "nulls" "[Z" nl := pr7.keep K115 nin0
  have f129 : Fld Z T115.heap o "com/example/quayside/quayside/Row" "nullCount" "I" (.int cn) := pr8.keep K115 nin0
  have f130 : own_Ar Z T115.heap rs .int cap (own_I gs) := pr9.keep K115 nin0
  have f131 : own_Ar Z T115.heap re .int cap (own_I ge) := pr10.keep K115 nin0
  have z132 : n0 ≤ T115.heap.size := Nat.le_trans Z0 K115.1
  have kp133 : Keep h0 T115.heap [o] := kp0.trans K115 all0
  obtain ⟨T134, h134, X134, e134, W134, st134⟩ := putF X115 hx hZ hown (host := "") (Or.inl (hw _ (List.mem_of_getElem? (i := 14) rfl))) Via.refl rfl f122 f121 (Or.inl (hw _ (List.mem_of_getElem? (i := 15) rfl))) (hw _ (List.mem_of_getElem? (i := 2) rfl)) (ty := (.array .int)) (by decide) rfl rfl (g := (mkF m 50 #[.val (.ref o), .val (.int (Int32.ofNat i)), .val (.int j)] [(.ref b115), (.ref o)])) rfl rfl (own_hb hby d5_50)
  refine own_Go.of (S' := (T134.setTop (mkF m 53 #[.val (.ref o), .val (.int (Int32.ofNat i)), .val (.int j)] []))) st134 ?_
  have f135 : Exa Z h134 o "com/example/quayside/quayside/Row" := f121.wr W134
  have f136 : Fld Z h134 o "com/example/quayside/quayside/Row" "ends" "[I" (.ref re) := f123.other W134 (Or.inr (slot_ne (Or.inl (hw _ (List.mem_of_getElem? (i := 17) rfl))) (Or.inl (hw _ (List.mem_of_getElem? (i := 15) rfl))) (by decide) (t := (.array .int)) (t' := (.array .int)) (by decide) (by decide)))
  have f137 : Fld Z h134 o "com/example/quayside/quayside/Row" "size" "I" (.int (Int32.ofNat k)) := f124.other W134 (Or.inr (slot_ne (Or.inl (hw _ (List.mem_of_getElem? (i := 31) rfl))) (Or.inl (hw _ (List.mem_of_getElem? (i := 15) rfl))) (by decide) (t := .int) (t' := (.array .int)) (by decide) (by decide)))
  have f138 : Fld Z h134 o "com/example/quayside/quayside/Row" "reach" "I" (.int r) := f125.other W134 (Or.inr (slot_ne (Or.inl (hw _ (List.mem_of_getElem? (i := 33) rfl))) (Or.inl (hw _ (List.mem_of_getElem? (i := 15) rfl))) (by decide) (t := .int) (t' := (.array .int)) (by decide) (by decide)))
  have f139 : Fld Z h134 o "com/example/quayside/quayside/Row" "text" "Z" (.int tx) := f126.other W134 (Or.inr (slot_ne (Or.inl (hw _ (List.mem_of_getElem? (i := 39) rfl))) (Or.inl (hw _ (List.mem_of_getElem? (i := 15) rfl))) (by decide) (t := .boolean) (t' := (.array .int)) (by decide) (by decide)))
  have f140 : Fld Z h134 o "com/example/quayside/quayside/Row" "bytes" "[B" (.ref bs) := f127.other W134 (Or.inr (slot_ne (Or.inl (hw _ (List.mem_of_getElem? (i := 12) rfl))) (Or.inl (hw _ (List.mem_of_getElem? (i := 15) rfl))) (by decide) (t := (.array .byte)) (t' := (.array .int)) (by decide) (by decide)))
  have f141 : Fld Z h134 o "com/example/quayside/quayside/Row" "nulls" "[Z" nl := f128.other W134 (Or.inr (slot_ne (Or.inl (hw _ (List.mem_of_getElem? (i := 65) rfl))) (Or.inl (hw _ (List.mem_of_getElem? (i := 15) rfl))) (by decide) (t := (.array .boolean)) (t' := (.array .int)) (by decide) (by decide)))
  have f142 : Fld Z h134 o "com/example/quayside/quayside/Row" "nullCount" "I" (.int cn) := f129.other W134 (Or.inr (slot_ne (Or.inl (hw _ (List.mem_of_getElem? (i := 52) rfl))) (Or.inl (hw _ (List.mem_of_getElem? (i := 15) rfl))) (by decide) (t := .int) (t' := (.array .int)) (by decide) (by decide)))
  have f143 : own_Ar Z h134 rs .int cap (own_I gs) := f130.other W134 (Ne.symm pr14)
  have f144 : own_Ar Z h134 re .int cap (own_I ge) := f131.other W134 (Ne.symm pr15)
  have f145 : own_Ar Z h134 b115 .int (2 * k) (own_I (own_cpy gs cap)) := p115_1.other W134 (Ne.symm ne117)
  have z146 : n0 ≤ h134.size := Nat.le_trans z132 (Keep.of_wr W134).1
  have kp147 : Keep h0 h134 [o] := kp133.wr W134 (Or.inl (List.mem_of_getElem? (i := 0) rfl))
  have f148 : Fld Z h134 o "com/example/quayside/quayside/Row" "starts" "[I" (.ref b115) := f122.same W134
  have N134 := Fr.snoc X134 N115 pr11
  refine own_Go.of (S' := (T134.setTop (mkF m 55 #[.val (.ref o), .val (.int (Int32.ofNat i)), .val (.int j)] [(.ref o), (.ref o)]))) (fun t kt => ?_) ?_
  · show Steps p.tables e below (T134.setTop (mkF m 53 #[.val (.ref o), .val (.int (Int32.ofNat i)), .val (.int j)] [])) _
    refine XS.aloadN X134.here hx rfl (own_hb hby d5_53) rfl rfl ?_
    show Steps p.tables e below (T134.setTop (mkF m 54 #[.val (.ref o), .val (.int (Int32.ofNat i)), .val (.int j)] [(.ref o)])) _
    refine XS.aloadN X134.here hx rfl (own_hb hby d5_54) rfl rfl ?_
    exact kt
  obtain ⟨T149, X149, e149, st149⟩ := getF X134 hx hZ hown (host := "") (Or.inl (hw _ (List.mem_of_getElem? (i := 16) rfl))) Via.refl e134 f136 (g := (mkF m 55 #[.val (.ref o), .val (.int (Int32.ofNat i)), .val (.int j)] [(.ref o), (.ref o)])) rfl rfl (own_hb hby d5_55)
  refine own_Go.of (S' := (T149.setTop (mkF m 58 #[.val (.ref o), .val (.int (Int32.ofNat i)), .val (.int j)] [(.ref re), (.ref o)]))) st149 ?_
  refine own_Go.of (S' := (T149.setTop (mkF m 60 #[.val (.ref o), .val (.int (Int32.ofNat i)), .val (.int j)] [(.ref o), (.int (2 : Int32)), (.ref re), (.ref o)]))) (fun t kt => ?_) ?_
  · show Steps p.tables e below (T149.setTop (mkF m 58 #[.val (.ref o), .val (.int (Int32.ofNat i)), .val (.int j)] [(.ref re), (.ref o)])) _
    refine XS.iconst X149.here hx rfl (own_hb hby d5_58) ?_
    show Steps p.tables e below (T149.setTop (mkF m 59 #[.val (.ref o), .val (.int (Int32.ofNat i)), .val (.int j)] [(.int (2 : Int32)), (.ref re), (.ref o)])) _
    refine XS.aloadN X149.here hx rfl (own_hb hby d5_59) rfl rfl ?_
    exact kt
  obtain ⟨T150, X150, e150, st150⟩ := getF X149 hx hZ hown (host := "") (Or.inl (hw _ (List.mem_of_getElem? (i := 30) rfl))) Via.refl e149 f137 (g := (mkF m 60 #[.val (.ref o), .val (.int (Int32.ofNat i)), .val (.int j)] [(.ref o), (.int (2 : Int32)), (.ref re), (.ref o)])) rfl rfl (own_hb hby d5_60)
  refine own_Go.of (S' := (T150.setTop (mkF m 63 #[.val (.ref o), .val (.int (Int32.ofNat i)), .val (.int j)] [(.int (Int32.ofNat k)), (.int (2 : Int32)), (.ref re), (.ref o)]))) st150 ?_
  refine own_Go.of (S' := (T150.setTop (mkF m 64 #[.val (.ref o), .val (.int (Int32.ofNat i)), .val (.int j)] [(.int (Int32.ofNat (2 * k))), (.ref re), (.ref o)]))) (fun t kt => ?_) ?_
  · show Steps p.tables e below (T150.setTop (mkF m 63 #[.val (.ref o), .val (.int (Int32.ofNat i)), .val (.int j)] [(.int (Int32.ofNat k)), (.int (2 : Int32)), (.ref re), (.ref o)])) _
    refine XS.imul X150.here hx rfl (own_hb hby d5_63) rfl ?_
    show Steps p.tables e below (T150.setTop (mkF m 64 #[.val (.ref o), .val (.int (Int32.ofNat i)), .val (.int j)] [(.int ((2 : Int32) * (Int32.ofNat k))), (.ref re), (.ref o)])) _
    rw [show (2 : Int32) * Int32.ofNat k = Int32.ofNat (2 * k) from (Int32.ofNat_mul 2 k).symm]
    exact kt
  obtain ⟨_, _, ⟨T151, L151, k151, n151⟩, -, X151, ⟨Lc151, hQ151, l151, y151, z151⟩, st151⟩ := Jvm.LawKit.callS X150 hx (y := (⟨"java/util/Arrays", "copyOf", "([II)[I"⟩ : MethodName)) hown (mvT hZ (hw _ (List.mem_of_getElem? (i := 77) rfl))) (mvT hZ (hw _ (List.mem_of_getElem? (i := 78) rfl))) (mvT hZ (hw _ (List.mem_of_getElem? (i := 68) rfl))) (mvT hZ (hw _ (List.mem_of_getElem? (i := 79) rfl))) (by decide) (backOf (W := 1) (rm13 l Z a0 hw [] re (2 * k) cap ge h134 n0 z146 f144 (by omega) (by omega)) hZ (hw _ (List.mem_of_getElem? (i := 79) rfl)) (hw _ (List.mem_of_getElem? (i := 68) rfl)) (by decide) (by decide)) (g := (mkF m 64 #[.val (.ref o), .val (.int (Int32.ofNat i)), .val (.int j)] [(.int (Int32.ofNat (2 * k))), (.ref re), (.ref o)])) rfl (by rw [hml]; rfl) (argsL := [(.ref re), (.int (Int32.ofNat (2 * k)))]) (rest := [(.ref o)]) (lenOf pd_1 rfl) rfl (by show 2 * 0 + _ ≤ _; exact Nat.le_of_eq rfl) (own_hb hby d5_64) (fun _ _ => ⟨rfl, e150, (by decide : 1 + 1 ≤ _), (by decide : 8 + 8 ≤ _)⟩)
  dsimp only [Pt.U, Pt.locs, Pt.cells, Pt.slots] at X151 l151 y151 z151 st151 hQ151
  subst l151 y151 z151
  obtain ⟨b151, rfl, N151q, K151, p151_0, p151_1⟩ := hQ151
  have N151 := Fr.app N134 N151q
  refine own_Go.of (S' := (T151.setTop (mkF m 67 #[.val (.ref o), .val (.int (Int32.ofNat i)), .val (.int j)] [(.ref b151), (.ref o)]))) (fun t kt => st151 t kt) ?_
  have gx152 : n0 ≤ b151 := Nat.le_trans z146 p151_0
  have ne153 : o ≠ b151 := Nat.ne_of_lt (Nat.lt_of_lt_of_le f135.lt p151_0)
  have ne154 : rs ≠ b151 := Nat.ne_of_lt (Nat.lt_of_lt_of_le f143.lt p151_0)
  have ne155 : re ≠ b151 := Nat.ne_of_lt (Nat.lt_of_lt_of_le f144.lt p151_0)
  have ne156 : b115 ≠ b151 := Nat.ne_of_lt (Nat.lt_of_lt_of_le f145.lt p151_0)
  have sz157 : h0.size ≤ b151 := Nat.le_trans kp147.1 p151_0
  have f158 : Exa Z T151.heap o "com/example/quayside/quayside/Row" := f135.keep K151
  have f159 : Fld Z T151.heap o "com/example/quayside/quayside/Row" "starts" "[I" (.ref b115) := f148.keep K151 nin0
  have f160 : Fld Z T151.heap o "com/example/quayside/quayside/Row" "ends" "[I" (.ref re) := f136.keep K151 nin0
  have f161 : Fld Z T151.heap o "com/example/quayside/quayside/Row" "size" "I" (.int (Int32.ofNat k)) := f137.keep K151 nin0
  have f162 : Fld Z T151.heap o "com/example/quayside/quayside/Row" "reach" "I" (.int r) := f138.keep K151 nin0
  have f163 : Fld Z T151.heap o "com/example/quayside/quayside/Row" "text" "Z" (.int tx) := f139.keep K151 nin0
  have f164 : Fld Z T151.heap o "com/example/quayside/quayside/Row" "bytes" "[B" (.ref bs) := f140.keep K151 nin0
  have f165 : Fld Z T151.heap o "com/example/quayside/quayside/Row" "nulls" "[Z" nl := f141.keep K151 nin0
  have f166 : Fld Z T151.heap o "com/example/quayside/quayside/Row" "nullCount" "I" (.int cn) := f142.keep K151 nin0
  have f167 : own_Ar Z T151.heap rs .int cap (own_I gs) := f143.keep K151 nin0
  have f168 : own_Ar Z T151.heap re .int cap (own_I ge) := f144.keep K151 nin0
  have f169 : own_Ar Z T151.heap b115 .int (2 * k) (own_I (own_cpy gs cap)) := f145.keep K151 nin0
  have z170 : n0 ≤ T151.heap.size := Nat.le_trans z146 K151.1
  have kp171 : Keep h0 T151.heap [o] := kp147.trans K151 all0
  obtain ⟨T172, h172, X172, e172, W172, st172⟩ := putF X151 hx hZ hown (host := "") (Or.inl (hw _ (List.mem_of_getElem? (i := 16) rfl))) Via.refl rfl f160 f158 (Or.inl (hw _ (List.mem_of_getElem? (i := 17) rfl))) (hw _ (List.mem_of_getElem? (i := 2) rfl)) (ty := (.array .int)) (by decide) rfl rfl (g := (mkF m 67 #[.val (.ref o), .val (.int (Int32.ofNat i)), .val (.int j)] [(.ref b151), (.ref o)])) rfl rfl (own_hb hby d5_67)
  refine own_Go.of (S' := (T172.setTop (mkF m 70 #[.val (.ref o), .val (.int (Int32.ofNat i)), .val (.int j)] []))) st172 ?_
  have f173 : Exa Z h172 o "com/example/quayside/quayside/Row" := f158.wr W172
  have f174 : Fld Z h172 o "com/example/quayside/quayside/Row" "starts" "[I" (.ref b115) := f159.other W172 (Or.inr (slot_ne (Or.inl (hw _ (List.mem_of_getElem? (i := 15) rfl))) (Or.inl (hw _ (List.mem_of_getElem? (i := 17) rfl))) (by decide) (t := (.array .int)) (t' := (.array .int)) (by decide) (by decide)))
  have f175 : Fld Z h172 o "com/example/quayside/quayside/Row" "size" "I" (.int (Int32.ofNat k)) := f161.other W172 (Or.inr (slot_ne (Or.inl (hw _ (List.mem_of_getElem? (i := 31) rfl))) (Or.inl (hw _ (List.mem_of_getElem? (i := 17) rfl))) (by decide) (t := .int) (t' := (.array .int)) (by decide) (by decide)))
  have f176 : Fld Z h172 o "com/example/quayside/quayside/Row" "reach" "I" (.int r) := f162.other W172 (Or.inr (slot_ne (Or.inl (hw _ (List.mem_of_getElem? (i := 33) rfl))) (Or.inl (hw _ (List.mem_of_getElem? (i := 17) rfl))) (by decide) (t := .int) (t' := (.array .int)) (by decide) (by decide)))
  have f177 : Fld Z h172 o "com/example/quayside/quayside/Row" "text" "Z" (.int tx) := f163.other W172 (Or.inr (slot_ne (Or.inl (hw _ (List.mem_of_getElem? (i := 39) rfl))) (Or.inl (hw _ (List.mem_of_getElem? (i := 17) rfl))) (by decide) (t := .boolean) (t' := (.array .int)) (by decide) (by decide)))
  have f178 : Fld Z h172 o "com/example/quayside/quayside/Row" "bytes" "[B" (.ref bs) := f164.other W172 (Or.inr (slot_ne (Or.inl (hw _ (List.mem_of_getElem? (i := 12) rfl))) (Or.inl (hw _ (List.mem_of_getElem? (i := 17) rfl))) (by decide) (t := (.array .byte)) (t' := (.array .int)) (by decide) (by decide)))
  have f179 : Fld Z h172 o "com/example/quayside/quayside/Row" "nulls" "[Z" nl := f165.other W172 (Or.inr (slot_ne (Or.inl (hw _ (List.mem_of_getElem? (i := 65) rfl))) (Or.inl (hw _ (List.mem_of_getElem? (i := 17) rfl))) (by decide) (t := (.array .boolean)) (t' := (.array .int)) (by decide) (by decide)))
  have f180 : Fld Z h172 o "com/example/quayside/quayside/Row" "nullCount" "I" (.int cn) := f166.other W172 (Or.inr (slot_ne (Or.inl (hw _ (List.mem_of_getElem? (i := 52) rfl))) (Or.inl (hw _ (List.mem_of_getElem? (i := 17) rfl))) (by decide) (t := .int) (t' := (.array .int)) (by decide) (by decide)))
  have f181 : own_Ar Z h172 rs .int cap (own_I gs) := f167.other W172 (Ne.symm pr14)
  have f182 : own_Ar Z h172 re .int cap (own_I ge) := f168.other W172 (Ne.symm pr15)
  have f183 : own_Ar Z h172 b115 .int (2 * k) (own_I (own_cpy gs cap)) := f169.other W172 (Ne.symm ne117)
  have f184 : own_Ar Z h172 b151 .int (2 * k) (own_I (own_cpy ge cap)) := p151_1.other W172 (Ne.symm ne153)
  have z185 : n0 ≤ h172.size := Nat.le_trans z170 (Keep.of_wr W172).1
  have kp186 : Keep h0 h172 [o] := kp171.wr W172 (Or.inl (List.mem_of_getElem? (i := 0) rfl))
  have f187 : Fld Z h172 o "com/example/quayside/quayside/Row" "ends" "[I" (.ref b151) := f160.same W172
  have N172 := Fr.snoc X172 N151 pr11
  refine own_Go.of (S' := (T172.setTop (mkF m 71 #[.val (.ref o), .val (.int (Int32.ofNat i)), .val (.int j)] [(.ref o)]))) (fun t kt => ?_) ?_
  · show Steps p.tables e below (T172.setTop (mkF m 70 #[.val (.ref o), .val (.int (Int32.ofNat i)), .val (.int j)] [])) _
    refine XS.aloadN X172.here hx rfl (own_hb hby d5_70) rfl rfl ?_
    exact kt
  obtain ⟨T188, X188, e188, st188⟩ := getF X172 hx hZ hown (host := "") (Or.inl (hw _ (List.mem_of_getElem? (i := 14) rfl))) Via.refl e172 f174 (g := (mkF m 71 #[.val (.ref o), .val (.int (Int32.ofNat i)), .val (.int j)] [(.ref o)])) rfl rfl (own_hb hby d5_71)
  refine own_Go.of (S' := (T188.setTop (mkF m 74 #[.val (.ref o), .val (.int (Int32.ofNat i)), .val (.int j)] [(.ref b115)]))) st188 ?_
  refine own_Go.of (S' := (T188.setTop (mkF m 75 #[.val (.ref o), .val (.int (Int32.ofNat i)), .val (.int j)] [(.ref o), (.ref b115)]))) (fun t kt => ?_) ?_
  · show Steps p.tables e below (T188.setTop (mkF m 74 #[.val (.ref o), .val (.int (Int32.ofNat i)), .val (.int j)] [(.ref b115)])) _
    refine XS.aloadN X188.here hx rfl (own_hb hby d5_74) rfl rfl ?_
    exact kt
  obtain ⟨T189, X189, e189, st189⟩ := getF X188 hx hZ hown (host := "") (Or.inl (hw _ (List.mem_of_getElem? (i := 30) rfl))) Via.refl e188 f175 (g := (mkF m 75 #[.val (.ref o), .val (.int (Int32.ofNat i)), .val (.int j)] [(.ref o), (.ref b115)])) rfl rfl (own_hb hby d5_75)
  refine own_Go.of (S' := (T189.setTop (mkF m 78 #[.val (.ref o), .val (.int (Int32.ofNat i)), .val (.int j)] [(.int (Int32.ofNat k)), (.ref b115)]))) st189 ?_
  refine own_Go.of (S' := (T189.setTop (mkF m 79 #[.val (.ref o), .val (.int (Int32.ofNat i)), .val (.int j)] [(.int (Int32.ofNat i)), (.int (Int32.ofNat k)), (.ref b115)]))) (fun t kt => ?_) ?_
  · show Steps p.tables e below (T189.setTop (mkF m 78 #[.val (.ref o), .val (.int (Int32.ofNat i)), .val (.int j)] [(.int (Int32.ofNat k)), (.ref b115)])) _
    refine XS.iloadN X189.here hx rfl (own_hb hby d5_78) rfl ?_
    exact kt
  obtain ⟨cl190, Ar190, hin190, ub190⟩ := own_Ar.put (j := (Int32.ofNat k)) (k := k) f183 ⟨rfl, by omega⟩
  obtain ⟨T190, h190, X190, e190, W190, st190⟩ := stI X189 hx hZ e189 Ar190 (j := (Int32.ofNat k)) hin190 (g := (mkF m 79 #[.val (.ref o), .val (.int (Int32.ofNat i)), .val (.int j)] [(.int (Int32.ofNat i)), (.int (Int32.ofNat k)), (.ref b115)])) rfl rfl (own_hb hby d5_79)
  refine own_Go.of (S' := (T190.setTop (mkF m 80 #[.val (.ref o), .val (.int (Int32.ofNat i)), .val (.int j)] []))) st190 ?_
  have f191 : Exa Z h190 o "com/example/quayside/quayside/Row" := f173.wr W190
  have f192 : Fld Z h190 o "com/example/quayside/quayside/Row" "starts" "[I" (.ref b115) := f174.other W190 (Or.inl ne117)
  have f193 : Fld Z h190 o "com/example/quayside/quayside/Row" "ends" "[I" (.ref b151) := f187.other W190 (Or.inl ne117)
  have f194 : Fld Z h190 o "com/example/quayside/quayside/Row" "size" "I" (.int (Int32.ofNat k)) := f175.other W190 (Or.inl ne117)
  have f195 : Fld Z h190 o "com/example/quayside/quayside/Row" "reach" "I" (.int r) := f176.other W190 (Or.inl ne117)
  have f196 : Fld Z h190 o "com/example/quayside/quayside/Row" "text" "Z" (.int tx) := f177.other W190 (Or.inl ne117)
  have f197 : Fld Z h190 o "com/example/quayside/quayside/Row" "bytes" "[B" (.ref bs) := f178.other W190 (Or.inl ne117)
  have f198 : Fld Z h190 o "com/example/quayside/quayside/Row" "nulls" "[Z" nl := f179.other W190 (Or.inl ne117)
  have f199 : Fld Z h190 o "com/example/quayside/quayside/Row" "nullCount" "I" (.int cn) := f180.other W190 (Or.inl ne117)
  have f200 : own_Ar Z h190 rs .int cap (own_I gs) := f181.other W190 ne118
  have f201 : own_Ar Z h190 re .int cap (own_I ge) := f182.other W190 ne119
  have f202 : own_Ar Z h190 b151 .int (2 * k) (own_I (own_cpy ge cap)) := f184.other W190 (Ne.symm ne156)
  have z203 : n0 ≤ h190.size := Nat.le_trans z185 (Keep.of_wr W190).1
  have kp204 : Keep h0 h190 [o] := kp186.wr W190 (Or.inr sz120)
  have f205 : own_Ar Z h190 b115 .int (2 * k) (own_I (own_set (own_cpy gs cap) k (Int32.ofNat i))) := by rw [← own_upI]; exact ub190 rfl W190
  have N190 := Fr.snoc X190 N172 gx116
  refine own_Go.of (S' := (T190.setTop (mkF m 81 #[.val (.ref o), .val (.int (Int32.ofNat i)), .val (.int j)] [(.ref o)]))) (fun t kt => ?_) ?_
  · show Steps p.tables e below (T190.setTop (mkF m 80 #[.val (.ref o), .val (.int (Int32.ofNat i)), .val (.int j)] [])) _
    refine XS.aloadN X190.here hx rfl (own_hb hby d5_80) rfl rfl ?_
    exact kt
  obtain ⟨T206, X206, e206, st206⟩ := getF X190 hx hZ hown (host := "") (Or.inl (hw _ (List.mem_of_getElem? (i := 16) rfl))) Via.refl e190 f193 (g := (mkF m 81 #[.val (.ref o), .val (.int (Int32.ofNat i)), .val (.int j)] [(.ref o)])) rfl rfl (own_hb hby d5_81)
  refine own_Go.of (S' := (T206.setTop (mkF m 84 #[.val (.ref o), .val (.int (Int32.ofNat i)), .val (.int j)] [(.ref b151)]))) st206 ?_
  refine own_Go.of (S' := (T206.setTop (mkF m 85 #[.val (.ref o), .val (.int (Int32.ofNat i)), .val (.int j)] [(.ref o), (.ref b151)]))) (fun t kt => ?_) ?_
  · show Steps p.tables e below (T206.setTop (mkF m 84 #[.val (.ref o), .val (.int (Int32.ofNat i)), .val (.int j)] [(.ref b151)])) _
    refine XS.aloadN X206.here hx rfl (own_hb hby d5_84) rfl rfl ?_
    exact kt
  obtain ⟨T207, X207, e207, st207⟩ := getF X206 hx hZ hown (host := "") (Or.inl (hw _ (List.mem_of_getElem? (i := 30) rfl))) Via.refl e206 f194 (g := (mkF m 85 #[.val (.ref o), .val (.int (Int32.ofNat i)), .val (.int j)] [(.ref o), (.ref b151)])) rfl rfl (own_hb hby d5_85)
  refine own_Go.of (S' := (T207.setTop (mkF m 88 #[.val (.ref o), .val (.int (Int32.ofNat i)), .val (.int j)] [(.int (Int32.ofNat k)), (.ref b151)]))) st207 ?_
  refine own_Go.of (S' := (T207.setTop (mkF m 89 #[.val (.ref o), .val (.int (Int32.ofNat i)), .val (.int j)] [(.int j), (.int (Int32.ofNat k)), (.ref b151)]))) (fun t kt => ?_) ?_
  · show Steps p.tables e below (T207.setTop (mkF m 88 #[.val (.ref o), .val (.int (Int32.ofNat i)), .val (.int j)] [(.int (Int32.ofNat k)), (.ref b151)])) _
    refine XS.iloadN X207.here hx rfl (own_hb hby d5_88) rfl ?_
    exact kt
  obtain ⟨cl208, Ar208, hin208, ub208⟩ := own_Ar.put (j := (Int32.ofNat k)) (k := k) f202 ⟨rfl, by omega⟩
  obtain ⟨T208, h208, X208, e208, W208, st208⟩ := stI X207 hx hZ e207 Ar208 (j := (Int32.ofNat k)) hin208 (g := (mkF m 89 #[.val (.ref o), .val (.int (Int32.ofNat i)), .val (.int j)] [(.int j), (.int (Int32.ofNat k)), (.ref b151)])) rfl rfl (own_hb hby d5_89)
  refine own_Go.of (S' := (T208.setTop (mkF m 90 #[.val (.ref o), .val (.int (Int32.ofNat i)), .val (.int j)] []))) st208 ?_
  have f209 : Exa Z h208 o "com/example/quayside/quayside/Row" := f191.wr W208
  have f210 : Fld Z h208 o "com/example/quayside/quayside/Row" "starts" "[I" (.ref b115) := f192.other W208 (Or.inl ne153)
  have f211 : Fld Z h208 o "com/example/quayside/quayside/Row" "ends" "[I" (.ref b151) := f193.other W208 (Or.inl ne153)
  have f212 : Fld Z h208 o "com/example/quayside/quayside/Row" "size" "I" (.int (Int32.ofNat k)) := f194.other W208 (Or.inl ne153)
  have f213 : Fld Z h208 o "com/example/quayside/quayside/Row" "reach" "I" (.int r) := f195.other W208 (Or.inl ne153)
  have f214 : Fld Z h208 o "com/example/quayside/quayside/Row" "text" "Z" (.int tx) := f196.other W208 (Or.inl ne153)
  have f215 : Fld Z h208 o "com/example/quayside/quayside/Row" "bytes" "[B" (.ref bs) := f197.other W208 (Or.inl ne153)
  have f216 : Fld Z h208 o "com/example/quayside/quayside/Row" "nulls" "[Z" nl := f198.other W208 (Or.inl ne153)
  have f217 : Fld Z h208 o "com/example/quayside/quayside/Row" "nullCount" "I" (.int cn) := f199.other W208 (Or.inl ne153)
  have f218 : own_Ar Z h208 rs .int cap (own_I gs) := f200.other W208 ne154
  have f219 : own_Ar Z h208 re .int cap (own_I ge) := f201.other W208 ne155
  have f220 : own_Ar Z h208 b115 .int (2 * k) (own_I (own_set (own_cpy gs cap) k (Int32.ofNat i))) := f205.other W208 ne156
  have z221 : n0 ≤ h208.size := Nat.le_trans z203 (Keep.of_wr W208).1
  have kp222 : Keep h0 h208 [o] := kp204.wr W208 (Or.inr sz157)
  have f223 : own_Ar Z h208 b151 .int (2 * k) (own_I (own_set (own_cpy ge cap) k j)) := by rw [← own_upI]; exact ub208 rfl W208
  have N208 := Fr.snoc X208 N190 gx152
  refine own_Go.of (S' := (T208.setTop (mkF m 92 #[.val (.ref o), .val (.int (Int32.ofNat i)), .val (.int j)] [(.ref o), (.ref o)]))) (fun t kt => ?_) ?_
  · show Steps p.tables e below (T208.setTop (mkF m 90 #[.val (.ref o), .val (.int (Int32.ofNat i)), .val (.int j)] [])) _
    refine XS.aloadN X208.here hx rfl (own_hb hby d5_90) rfl rfl ?_
    show Steps p.tables e below (T208.setTop (mkF m 91 #[.val (.ref o), .val (.int (Int32.ofNat i)), .val (.int j)] [(.ref o)])) _
    refine XS.dup X208.here hx rfl (own_hb hby d5_91) rfl rfl ?_
    exact kt
  obtain ⟨T224, X224, e224, st224⟩ := getF X208 hx hZ hown (host := "") (Or.inl (hw _ (List.mem_of_getElem? (i := 30) rfl))) Via.refl e208 f212 (g := (mkF m 92 #[.val (.ref o), .val (.int (Int32.ofNat i)), .val (.int j)] [(.ref o), (.ref o)])) rfl rfl (own_hb hby d5_92)
  refine own_Go.of (S' := (T224.setTop (mkF m 95 #[.val (.ref o), .val (.int (Int32.ofNat i)), .val (.int j)] [(.int (Int32.ofNat k)), (.ref o)]))) st224 ?_
  refine own_Go.of (S' := (T224.setTop (mkF m 97 #[.val (.ref o), .val (.int (Int32.ofNat i)), .val (.int j)] [(.int (Int32.ofNat (k + 1))), (.ref o)]))) (fun t kt => ?_) ?_
  · show Steps p.tables e below (T224.setTop (mkF m 95 #[.val (.ref o), .val (.int (Int32.ofNat i)), .val (.int j)] [(.int (Int32.ofNat k)), (.ref o)])) _
    refine XS.iconst X224.here hx rfl (own_hb hby d5_95) ?_
    show Steps p.tables e below (T224.setTop (mkF m 96 #[.val (.ref o), .val (.int (Int32.ofNat i)), .val (.int j)] [(.int (1 : Int32)), (.int (Int32.ofNat k)), (.ref o)])) _
    refine XS.iadd X224.here hx rfl (own_hb hby d5_96) rfl ?_
    show Steps p.tables e below (T224.setTop (mkF m 97 #[.val (.ref o), .val (.int (Int32.ofNat i)), .val (.int j)] [(.int ((Int32.ofNat k) + (1 : Int32))), (.ref o)])) _
    rw [show Int32.ofNat k + (1 : Int32) = Int32.ofNat (k + 1) from own_addN k 1]
    exact kt
  obtain ⟨T225, h225, X225, e225, W225, st225⟩ := putF X224 hx hZ hown (host := "") (Or.inl (hw _ (List.mem_of_getElem? (i := 30) rfl))) Via.refl e224 f212 f209 (Or.inl (hw _ (List.mem_of_getElem? (i := 31) rfl))) (hw _ (List.mem_of_getElem? (i := 2) rfl)) (ty := .int) (by decide) rfl rfl (g := (mkF m 97 #[.val (.ref o), .val (.int (Int32.ofNat i)), .val (.int j)] [(.int (Int32.ofNat (k + 1))), (.ref o)])) rfl rfl (own_hb hby d5_97)
  refine own_Go.of (S' := (T225.setTop (mkF m 100 #[.val (.ref o), .val (.int (Int32.ofNat i)), .val (.int j)] []))) st225 ?_
  have f226 : Exa Z h225 o "com/example/quayside/quayside/Row" := f209.wr W225
  have f227 : Fld Z h225 o "com/example/quayside/quayside/Row" "starts" "[I" (.ref b115) := f210.other W225 (Or.inr (slot_ne (Or.inl (hw _ (List.mem_of_getElem? (i := 15) rfl))) (Or.inl (hw _ (List.mem_of_getElem? (i := 31) rfl))) (by decide) (t := (.array .int)) (t' := .int) (by decide) (by decide)))
  have f228 : Fld Z h225 o "com/example/quayside/quayside/Row" "ends" "[I" (.ref b151) := f211.other W225 (Or.inr (slot_ne (Or.inl (hw _ (List.mem_of_getElem? (i := 17) rfl))) (Or.inl (hw _ (List.mem_of_getElem? (i := 31) rfl))) (by decide) (t := (.array .int)) (t' := .int) (by decide) (by decide)))
  have f229 : Fld Z h225 o "com/example/quayside/quayside/Row" "reach" "I" (.int r) := f213.other W225 (Or.inr (slot_ne (Or.inl (hw _ (List.mem_of_getElem? (i := 33) rfl))) (Or.inl (hw _ (List.mem_of_getElem? (i := 31) rfl))) (by decide) (t := .int) (t' := .int) (by decide) (by decide)))
  have f230 : Fld Z h225 o "com/example/quayside/quayside/Row" "text" "Z" (.int tx) := f214.other W225 (Or.inr (slot_ne (Or.inl (hw _ (List.mem_of_getElem? (i := 39) rfl))) (Or.inl (hw _ (List.mem_of_getElem? (i := 31) rfl))) (by decide) (t := .boolean) (t' := .int) (by decide) (by decide)))
  have f231 : Fld Z h225 o "com/example/quayside/quayside/Row" "bytes" "[B" (.ref bs) := f215.other W225 (Or.inr (slot_ne (Or.inl (hw _ (List.mem_of_getElem? (i := 12) rfl))) (Or.inl (hw _ (List.mem_of_getElem? (i := 31) rfl))) (by decide) (t := (.array .byte)) (t' := .int) (by decide) (by decide)))
  have f232 : Fld Z h225 o "com/example/quayside/quayside/Row" "nulls" "[Z" nl := f216.other W225 (Or.inr (slot_ne (Or.inl (hw _ (List.mem_of_getElem? (i := 65) rfl))) (Or.inl (hw _ (List.mem_of_getElem? (i := 31) rfl))) (by decide) (t := (.array .boolean)) (t' := .int) (by decide) (by decide)))
  have f233 : Fld Z h225 o "com/example/quayside/quayside/Row" "nullCount" "I" (.int cn) := f217.other W225 (Or.inr (slot_ne (Or.inl (hw _ (List.mem_of_getElem? (i := 52) rfl))) (Or.inl (hw _ (List.mem_of_getElem? (i := 31) rfl))) (by decide) (t := .int) (t' := .int) (by decide) (by decide)))
  have f234 : own_Ar Z h225 rs .int cap (own_I gs) := f218.other W225 (Ne.symm pr14)
  have f235 : own_Ar Z h225 re .int cap (own_I ge) := f219.other W225 (Ne.symm pr15)
  have f236 : own_Ar Z h225 b115 .int (2 * k) (own_I (own_set (own_cpy gs cap) k (Int32.ofNat i))) := f220.other W225 (Ne.symm ne117)
  have f237 : own_Ar Z h225 b151 .int (2 * k) (own_I (own_set (own_cpy ge cap) k j)) := f223.other W225 (Ne.symm ne153)
  have z238 : n0 ≤ h225.size := Nat.le_trans z221 (Keep.of_wr W225).1
  have kp239 : Keep h0 h225 [o] := kp222.wr W225 (Or.inl (List.mem_of_getElem? (i := 0) rfl))
  have f240 : Fld Z h225 o "com/example/quayside/quayside/Row" "size" "I" (.int (Int32.ofNat (k + 1))) := f212.same W225
  have N225 := Fr.snoc X225 N208 pr11
  refine own_Go.of (S' := (T225.setTop (mkF m 102 #[.val (.ref o), .val (.int (Int32.ofNat i)), .val (.int j)] [(.ref o), (.ref o)]))) (fun t kt => ?_) ?_
  · show Steps p.tables e below (T225.setTop (mkF m 100 #[.val (.ref o), .val (.int (Int32.ofNat i)), .val (.int j)] [])) _
    refine XS.aloadN X225.here hx rfl (own_hb hby d5_100) rfl rfl ?_
    show Steps p.tables e below (T225.setTop (mkF m 101 #[.val (.ref o), .val (.int (Int32.ofNat i)), .val (.int j)] [(.ref o)])) _
    refine XS.aloadN X225.here hx rfl (own_hb hby d5_101) rfl rfl ?_
    exact kt
  obtain ⟨T241, X241, e241, st241⟩ := getF X225 hx hZ hown (host := "") (Or.inl (hw _ (List.mem_of_getElem? (i := 32) rfl))) Via.refl e225 f229 (g := (mkF m 102 #[.val (.ref o), .val (.int (Int32.ofNat i)), .val (.int j)] [(.ref o), (.ref o)])) rfl rfl (own_hb hby d5_102)
  refine own_Go.of (S' := (T241.setTop (mkF m 105 #[.val (.ref o), .val (.int (Int32.ofNat i)), .val (.int j)] [(.int r), (.ref o)]))) st241 ?_
  refine own_Go.of (S' := (T241.setTop (mkF m 106 #[.val (.ref o), .val (.int (Int32.ofNat i)), .val (.int j)] [(.int j), (.int r), (.ref o)]))) (fun t kt => ?_) ?_
  · show Steps p.tables e below (T241.setTop (mkF m 105 #[.val (.ref o), .val (.int (Int32.ofNat i)), .val (.int j)] [(.int r), (.ref o)])) _
    refine XS.iloadN X241.here hx rfl (own_hb hby d5_105) rfl ?_
    exact kt
  obtain ⟨_, _, ⟨T242, L242, k242, n242⟩, -, X242, ⟨Lc242, hQ242, l242, y242, z242⟩, st242⟩ := Jvm.LawKit.callS X241 hx (y := (⟨"java/lang/Math", "max", "(II)I"⟩ : MethodName)) hown (mvT hZ (hw _ (List.mem_of_getElem? (i := 34) rfl))) (mvT hZ (hw _ (List.mem_of_getElem? (i := 35) rfl))) (mvT hZ (hw _ (List.mem_of_getElem? (i := 36) rfl))) (mvT hZ (hw _ (List.mem_of_getElem? (i := 37) rfl))) (by decide) (backOf (W := 1) (rm6 l Z a0 hw [] r j h225 n0 z238 ) hZ (hw _ (List.mem_of_getElem? (i := 37) rfl)) (hw _ (List.mem_of_getElem? (i := 36) rfl)) (by decide) (by decide)) (g := (mkF m 106 #[.val (.ref o), .val (.int (Int32.ofNat i)), .val (.int j)] [(.int j), (.int r), (.ref o)])) rfl (by rw [hml]; rfl) (argsL := [(.int r), (.int j)]) (rest := [(.ref o)]) (lenOf pd_0 rfl) rfl (by show 2 * 0 + _ ≤ _; exact Nat.le_of_eq rfl) (own_hb hby d5_106) (fun _ _ => ⟨rfl, e241, (by decide : 2 + 0 ≤ _), (by decide : 16 + 0 ≤ _)⟩)
  dsimp only [Pt.U, Pt.locs, Pt.cells, Pt.slots] at X242 l242 y242 z242 st242 hQ242
  subst l242 y242 z242
  obtain ⟨rfl, N242q, hh242⟩ := hQ242
  have N242 := Fr.app N225 N242q
  refine own_Go.of (S' := (T242.setTop (mkF m 109 #[.val (.ref o), .val (.int (Int32.ofNat i)), .val (.int j)] [(.int (own_maxI r j)), (.ref o)]))) (fun t kt => st242 t kt) ?_
  obtain ⟨T243, h243, X243, e243, W243, st243⟩ := putF X242 hx hZ hown (host := "") (Or.inl (hw _ (List.mem_of_getElem? (i := 32) rfl))) Via.refl hh242 f229 f226 (Or.inl (hw _ (List.mem_of_getElem? (i := 33) rfl))) (hw _ (List.mem_of_getElem? (i := 2) rfl)) (ty := .int) (by decide) rfl rfl (g := (mkF m 109 #[.val (.ref o), .val (.int (Int32.ofNat i)), .val (.int j)] [(.int (own_maxI r j)), (.ref o)])) rfl rfl (own_hb hby d5_109)
  refine own_Go.of (S' := (T243.setTop (mkF m 112 #[.val (.ref o), .val (.int (Int32.ofNat i)), .val (.int j)] []))) st243 ?_
  have f244 : Exa Z h243 o "com/example/quayside/quayside/Row" := f226.wr W243
  have f245 : Fld Z h243 o "com/example/quayside/quayside/Row" "starts" "[I" (.ref b115) := f227.other W243 (Or.inr (slot_ne (Or.inl (hw _ (List.mem_of_getElem? (i := 15) rfl))) (Or.inl (hw _ (List.mem_of_getElem? (i := 33) rfl))) (by decide) (t := (.array .int)) (t' := .int) (by decide) (by decide)))
  have f246 : Fld Z h243 o "com/example/quayside/quayside/Row" "ends" "[I" (.ref b151) := f228.other W243 (Or.inr (slot_ne (Or.inl (hw _ (List.mem_of_getElem? (i := 17) rfl))) (Or.inl (hw _ (List.mem_of_getElem? (i := 33) rfl))) (by decide) (t := (.array .int)) (t' := .int) (by decide) (by decide)))
  have f247 : Fld Z h243 o "com/example/quayside/quayside/Row" "size" "I" (.int (Int32.ofNat (k + 1))) := f240.other W243 (Or.inr (slot_ne (Or.inl (hw _ (List.mem_of_getElem? (i := 31) rfl))) (Or.inl (hw _ (List.mem_of_getElem? (i := 33) rfl))) (by decide) (t := .int) (t' := .int) (by decide) (by decide)))
  have f248 : Fld Z h243 o "com/example/quayside/quayside/Row" "text" "Z" (.int tx) := f230.other W243 (Or.inr (slot_ne (Or.inl (hw _ (List.mem_of_getElem? (i := 39) rfl))) (Or.inl (hw _ (List.mem_of_getElem? (i := 33) rfl))) (by decide) (t := .boolean) (t' := .int) (by decide) (by decide)))
  have f249 : Fld Z h243 o "com/example/quayside/quayside/Row" "bytes" "[B" (.ref bs) := f231.other W243 (Or.inr (slot_ne (Or.inl (hw _ (List.mem_of_getElem? (i := 12) rfl))) (Or.inl (hw _ (List.mem_of_getElem? (i := 33) rfl))) (by decide) (t := (.array .byte)) (t' := .int) (by decide) (by decide)))
  have f250 : Fld Z h243 o "com/example/quayside/quayside/Row" "nulls" "[Z" nl := f232.other W243 (Or.inr (slot_ne (Or.inl (hw _ (List.mem_of_getElem? (i := 65) rfl))) (Or.inl (hw _ (List.mem_of_getElem? (i := 33) rfl))) (by decide) (t := (.array .boolean)) (t' := .int) (by decide) (by decide)))
  have f251 : Fld Z h243 o "com/example/quayside/quayside/Row" "nullCount" "I" (.int cn) := f233.other W243 (Or.inr (slot_ne (Or.inl (hw _ (List.mem_of_getElem? (i := 52) rfl))) (Or.inl (hw _ (List.mem_of_getElem? (i := 33) rfl))) (by decide) (t := .int) (t' := .int) (by decide) (by decide)))
  have f252 : own_Ar Z h243 rs .int cap (own_I gs) := f234.other W243 (Ne.symm pr14)
  have f253 : own_Ar Z h243 re .int cap (own_I ge) := f235.other W243 (Ne.symm pr15)
  have f254 : own_Ar Z h243 b115 .int (2 * k) (own_I (own_set (own_cpy gs cap) k (Int32.ofNat i))) := f236.other W243 (Ne.symm ne117)
  have f255 : own_Ar Z h243 b151 .int (2 * k) (own_I (own_set (own_cpy ge cap) k j)) := f237.other W243 (Ne.symm ne153)
  have z256 : n0 ≤ h243.size := Nat.le_trans z238 (Keep.of_wr W243).1
  have kp257 : Keep h0 h243 [o] := kp239.wr W243 (Or.inl (List.mem_of_getElem? (i := 0) rfl))
  have f258 : Fld Z h243 o "com/example/quayside/quayside/Row" "reach" "I" (.int (own_maxI r j)) := f229.same W243
  have N243 := Fr.snoc X243 N242 pr11
  refine own_Go.of (S' := (T243.setTop (mkF m 114 #[.val (.ref o), .val (.int (Int32.ofNat i)), .val (.int j)] [(.int (0 : Int32)), (.ref o)]))) (fun t kt => ?_) ?_
  · show Steps p.tables e below (T243.setTop (mkF m 112 #[.val (.ref o), .val (.int (Int32.ofNat i)), .val (.int j)] [])) _
    refine XS.aloadN X243.here hx rfl (own_hb hby d5_112) rfl rfl ?_
    show Steps p.tables e below (T243.setTop (mkF m 113 #[.val (.ref o), .val (.int (Int32.ofNat i)), .val (.int j)] [(.ref o)])) _
    refine XS.iconst X243.here hx rfl (own_hb hby d5_113) ?_
    exact kt
  obtain ⟨T259, h259, X259, e259, W259, st259⟩ := putFN X243 hx hZ hown (hw _ (List.mem_of_getElem? (i := 38) rfl)) Via.refl e243 f248 f244 (Or.inl (hw _ (List.mem_of_getElem? (i := 39) rfl))) (hw _ (List.mem_of_getElem? (i := 2) rfl)) (ty := .boolean) (v' := (.int (nar .boolean (0 : Int32)))) (by decide) rfl (fits_nar_bool _) (g := (mkF m 114 #[.val (.ref o), .val (.int (Int32.ofNat i)), .val (.int j)] [(.int (0 : Int32)), (.ref o)])) rfl rfl (own_hb hby d5_114)
  refine own_Go.of (S' := (T259.setTop (mkF m 117 #[.val (.ref o), .val (.int (Int32.ofNat i)), .val (.int j)] []))) st259 ?_
  have f260 : Exa Z h259 o "com/example/quayside/quayside/Row" := f244.wr W259
  have f261 : Fld Z h259 o "com/example/quayside/quayside/Row" "starts" "[I" (.ref b115) := f245.other W259 (Or.inr (slot_ne (Or.inl (hw _ (List.mem_of_getElem? (i := 15) rfl))) (Or.inl (hw _ (List.mem_of_getElem? (i := 39) rfl))) (by decide) (t := (.array .int)) (t' := .boolean) (by decide) (by decide)))
  have f262 : Fld Z h259 o "com/example/quayside/quayside/Row" "ends" "[I" (.ref b151) := f246.other W259 (Or.inr (slot_ne (Or.inl (hw _ (List.mem_of_getElem? (i := 17) rfl))) (Or.inl (hw _ (List.mem_of_getElem? (i := 39) rfl))) (by decide) (t := (.array .int)) (t' := .boolean) (by decide) (by decide)))
  have f263 : Fld Z h259 o "com/example/quayside/quayside/Row" "size" "I" (.int (Int32.ofNat (k + 1))) := f247.other W259 (Or.inr (slot_ne (Or.inl (hw _ (List.mem_of_getElem? (i := 31) rfl))) (Or.inl (hw _ (List.mem_of_getElem? (i := 39) rfl))) (by decide) (t := .int) (t' := .boolean) (by decide) (by decide)))
  have f264 : Fld Z h259 o "com/example/quayside/quayside/Row" "reach" "I" (.int (own_maxI r j)) := f258.other W259 (Or.inr (slot_ne (Or.inl (hw _ (List.mem_of_getElem? (i := 33) rfl))) (Or.inl (hw _ (List.mem_of_getElem? (i := 39) rfl))) (by decide) (t := .int) (t' := .boolean) (by decide) (by decide)))
  have f265 : Fld Z h259 o "com/example/quayside/quayside/Row" "bytes" "[B" (.ref bs) := f249.other W259 (Or.inr (slot_ne (Or.inl (hw _ (List.mem_of_getElem? (i := 12) rfl))) (Or.inl (hw _ (List.mem_of_getElem? (i := 39) rfl))) (by decide) (t := (.array .byte)) (t' := .boolean) (by decide) (by decide)))
  have f266 : Fld Z h259 o "com/example/quayside/quayside/Row" "nulls" "[Z" nl := f250.other W259 (Or.inr (slot_ne (Or.inl (hw _ (List.mem_of_getElem? (i := 65) rfl))) (Or.inl (hw _ (List.mem_of_getElem? (i := 39) rfl))) (by decide) (t := (.array .boolean)) (t' := .boolean) (by decide) (by decide)))
  have f267 : Fld Z h259 o "com/example/quayside/quayside/Row" "nullCount" "I" (.int cn) := f251.other W259 (Or.inr (slot_ne (Or.inl (hw _ (List.mem_of_getElem? (i := 52) rfl))) (Or.inl (hw _ (List.mem_of_getElem? (i := 39) rfl))) (by decide) (t := .int) (t' := .boolean) (by decide) (by decide)))
  have f268 : own_Ar Z h259 rs .int cap (own_I gs) := f252.other W259 (Ne.symm pr14)
  have f269 : own_Ar Z h259 re .int cap (own_I ge) := f253.other W259 (Ne.symm pr15)
  have f270 : own_Ar Z h259 b115 .int (2 * k) (own_I (own_set (own_cpy gs cap) k (Int32.ofNat i))) := f254.other W259 (Ne.symm ne117)
  have f271 : own_Ar Z h259 b151 .int (2 * k) (own_I (own_set (own_cpy ge cap) k j)) := f255.other W259 (Ne.symm ne153)
  have z272 : n0 ≤ h259.size := Nat.le_trans z256 (Keep.of_wr W259).1
  have kp273 : Keep h0 h259 [o] := kp257.wr W259 (Or.inl (List.mem_of_getElem? (i := 0) rfl))
  have f274 : Fld Z h259 o "com/example/quayside/quayside/Row" "text" "Z" (.int (nar .boolean (0 : Int32))) := f248.same W259
  have N259 := Fr.snoc X259 N243 pr11
  have f275 : Fld Z h259 o "com/example/quayside/quayside/Row" "text" "Z" (.int (0 : Int32)) := f274
  exact own_retV X259 hx hlk hret (own_hb hby d5_117) e259 ⟨b115, b151, rfl, N259, kp273, sz120, sz157, ne156, f260, f261, f262, f263, f264, f275, f265, f266, f267, f270, f271⟩ (by decide) (by decide)
def own_Nul (Z : State) (h : Heap) (n0 : Nat) (x o rs re : Addr) (k cap : Nat) (f : Nat → Int32) : Prop :=
  (Fld Z h o "com/example/quayside/quayside/Row" "nulls" "[Z" .null ∧ Fld Z h o "com/example/quayside/quayside/Row" "nullCount" "I" (.int (0 : Int32)) ∧ ∀ i, i < k → f i = 0) ∨
  ∃ (rn : Addr) (mn c : Nat) (g : Nat → Int32), Fld Z h o "com/example/quayside/quayside/Row" "nulls" "[Z" (.ref rn) ∧ Fld Z h o "com/example/quayside/quayside/Row" "nullCount" "I" (.int (Int32.ofNat c)) ∧ own_Ar Z h rn .boolean mn (own_I g) ∧ n0 ≤ rn ∧ o ≠ rn ∧ rs ≠ rn ∧ re ≠ rn ∧ x ≠ rn ∧ (mn = 4 ∨ mn = 8) ∧ mn ≤ cap ∧ c ≤ k ∧ (∀ i, i < mn → g i = if i < k then f i else 0) ∧ (∀ i, mn ≤ i → i < k → f i = 0) ∧ (c = 0 → ∀ i, i < mn → g i = 0)
def own_Row (Z : State) (h : Heap) (n0 : Nat) (x o : Addr) (k cap : Nat) (f : Nat → Int32) : Prop :=
  ∃ (rs re bs : Addr) (gs ge : Nat → Int32) (tx r : Int32), Exa Z h o "com/example/quayside/quayside/Row" ∧ Fld Z h o "com/example/quayside/quayside/Row" "starts" "[I" (.ref rs) ∧ Fld Z h o "com/example/quayside/quayside/Row" "ends" "[I" (.ref re) ∧ Fld Z h o "com/example/quayside/quayside/Row" "size" "I" (.int (Int32.ofNat k)) ∧ Fld Z h o "com/example/quayside/quayside/Row" "reach" "I" (.int r) ∧ Fld Z h o "com/example/quayside/quayside/Row" "text" "Z" (.int tx) ∧ Fld Z h o "com/example/quayside/quayside/Row" "bytes" "[B" (.ref bs) ∧ own_Ar Z h rs .int cap (own_I gs) ∧ own_Ar Z h re .int cap (own_I ge) ∧ n0 ≤ o ∧ n0 ≤ rs ∧ n0 ≤ re ∧ o ≠ rs ∧ o ≠ re ∧ rs ≠ re ∧ x ≠ o ∧ x ≠ rs ∧ x ≠ re ∧ k ≤ cap ∧ (cap = 4 ∨ cap = 8) ∧ (∀ i, i < k → f i = 0 ∨ f i = 1) ∧ own_Nul Z h n0 x o rs re k cap f

theorem own_s01 {f : Nat → Int32} {k : Nat} {v : Int32} (h : ∀ i, i < k → f i = 0 ∨ f i = 1) (hv : v = 0 ∨ v = 1) : ∀ i, i < k + 1 → own_set f k v i = 0 ∨ own_set f k v i = 1 := fun i hi => by
  unfold own_set
  by_cases q : i = k
  · rw [if_pos q]; exact hv
  · rw [if_neg q]; exact h i (by omega)
theorem own_nA {f : Nat → Int32} {k mn : Nat} (h : ∀ i, i < k → f i = 0) : ∀ i, i < mn → own_set (own_cpy (fun _ => (0 : Int32)) 0) k (nar .boolean (1 : Int32)) i = if i < k + 1 then own_set f k 1 i else 0 := fun i hi => by
  unfold own_set own_cpy
  by_cases q : i = k
  · subst q; rw [if_pos rfl, if_pos rfl, if_pos (Nat.lt_succ_self _)]; rfl
  · rw [if_neg q, if_neg q, if_neg (Nat.not_lt_zero _)]
    by_cases r : i < k + 1
    · rw [if_pos r, h i (by omega)]
    · rw [if_neg r]
theorem own_nB {f g : Nat → Int32} {k mn : Nat} (hk : k < mn) (h : ∀ i, i < mn → g i = if i < k then f i else 0) : ∀ i, i < mn → own_set g k (nar .boolean (1 : Int32)) i = if i < k + 1 then own_set f k 1 i else 0 := fun i hi => by
  unfold own_set
  by_cases q : i = k
  · subst q; rw [if_pos rfl, if_pos rfl, if_pos (Nat.lt_succ_self _)]; rfl
  · rw [if_neg q, if_neg q, h i hi]
    by_cases r : i < k
    · rw [if_pos r, if_pos (by omega)]
    · rw [if_neg r, if_neg (by omega)]
theorem own_nC {f g : Nat → Int32} {k mn mn' : Nat} (hk : mn ≤ k) (h : ∀ i, i < mn → g i = if i < k then f i else 0) (h2 : ∀ i, mn ≤ i → i < k → f i = 0) : ∀ i, i < mn' → own_set (own_cpy g mn) k (nar .boolean (1 : Int32)) i = if i < k + 1 then own_set f k 1 i else 0 := fun i hi => by
  unfold own_set own_cpy
  by_cases q : i = k
  · subst q; rw [if_pos rfl, if_pos rfl, if_pos (Nat.lt_succ_self _)]; rfl
  · rw [if_neg q, if_neg q]
    by_cases r : i < mn
    · rw [if_pos r, h i r, if_pos (by omega), if_pos (by omega)]
    · rw [if_neg r]
      by_cases t : i < k + 1
      · rw [if_pos t, h2 i (by omega) (by omega)]
      · rw [if_neg t]
/-- a field that holds a value is added: what nulls says stays true -/
theorem own_nD {f g : Nat → Int32} {k mn : Nat} (h : ∀ i, i < mn → g i = if i < k then f i else 0) : ∀ i, i < mn → g i = if i < k + 1 then own_set f k 0 i else 0 := fun i hi => by
  unfold own_set
  rw [h i hi]
  by_cases q : i = k
  · subst q; rw [if_neg (by omega), if_pos (by omega), if_pos rfl]
  · by_cases r : i < k
    · rw [if_pos r, if_pos (by omega), if_neg q]
    · rw [if_neg r, if_neg (by omega)]
theorem own_nE {f : Nat → Int32} {k mn : Nat} (h2 : ∀ i, mn ≤ i → i < k → f i = 0) : ∀ i, mn ≤ i → i < k + 1 → own_set f k 0 i = 0 := fun i h3 h4 => by
  unfold own_set
  by_cases q : i = k
  · rw [if_pos q]
  · rw [if_neg q]; exact h2 i h3 (by omega)

theorem own_z1 {f : Nat → Int32} {k : Nat} (h : ∀ i, i < k → f i = 0) : ∀ i, i < k + 1 → own_set f k 0 i = 0 := fun i hi => by
  unfold own_set
  by_cases q : i = k
  · rw [if_pos q]
  · rw [if_neg q]; exact h i (by omega)


theorem own_Nul.wrx {Z : State} {h h' : Heap} {n0 : Nat} {x o rs re : Addr} {k cap sl : Nat} {v : Value} {f : Nat → Int32} (W : Wr h h' x sl v) (hxo : x ≠ o) (F : own_Nul Z h n0 x o rs re k cap f) : own_Nul Z h' n0 x o rs re k cap f := by
  rcases F with ⟨h1, h2, h3⟩ | ⟨rn, mn, c, g, h1, h2, h3, r1, r2, r3, r4, r5, r⟩
  · exact Or.inl ⟨h1.other W (Or.inl (Ne.symm hxo)), h2.other W (Or.inl (Ne.symm hxo)), h3⟩
  · exact Or.inr ⟨rn, mn, c, g, h1.other W (Or.inl (Ne.symm hxo)), h2.other W (Or.inl (Ne.symm hxo)), h3.other W (Ne.symm r5), r1, r2, r3, r4, r5, r⟩
theorem own_Row.exa {Z : State} {h : Heap} {n0 : Nat} {x o : Addr} {k cap : Nat} {f : Nat → Int32} (F : own_Row Z h n0 x o k cap f) : Exa Z h o "com/example/quayside/quayside/Row" := by
  obtain ⟨rs, re, bs, gs, ge, tx, r, hE, -⟩ := F
  exact hE
theorem own_Row.wrx {Z : State} {h h' : Heap} {n0 : Nat} {x o : Addr} {k cap sl : Nat} {v : Value} {f : Nat → Int32} (W : Wr h h' x sl v) (F : own_Row Z h n0 x o k cap f) : own_Row Z h' n0 x o k cap f := by
  obtain ⟨rs, re, bs, gs, ge, tx, r, hE, f1, f2, f3, f4, f5, f6, a1, a2, g1, g2, g3, n1, n2, n3, n4, n5, n6, k1, k2, k3, hN⟩ := F
  exact ⟨rs, re, bs, gs, ge, tx, r, hE.wr W, f1.other W (Or.inl (Ne.symm n4)), f2.other W (Or.inl (Ne.symm n4)), f3.other W (Or.inl (Ne.symm n4)), f4.other W (Or.inl (Ne.symm n4)), f5.other W (Or.inl (Ne.symm n4)), f6.other W (Or.inl (Ne.symm n4)), a1.other W (Ne.symm n5), a2.other W (Ne.symm n6), g1, g2, g3, n1, n2, n3, n4, n5, n6, k1, k2, k3, hN.wrx W n4⟩


def own_bit (p q : Int32) : Int32 := if (((p.toUInt32 >>> (q &&& 31).toUInt32).toInt32) &&& (1 : Int32)) = (0 : Int32) then 0 else 1
theorem own_bit01 (p q : Int32) : own_bit p q = 0 ∨ own_bit p q = 1 := by
  unfold own_bit
  split
  · exact Or.inl rfl
  · exact Or.inr rfl
theorem d10_0 : decode prog_62_method_4_code 0 = .ok (.aload_n 0, 1) := by decide +kernel
theorem d10_1 : decode prog_62_method_4_code 1 = .ok (.iconst 0, 1) := by decide +kernel
theorem d10_2 : decode prog_62_method_4_code 2 = .ok (.iconst 0, 1) := by decide +kernel
theorem d10_3 : decode prog_62_method_4_code 3 = .ok (.invokevirtual 63, 3) := by decide +kernel
theorem d10_6 : decode prog_62_method_4_code 6 = .ok (.aload_n 0, 1) := by decide +kernel
theorem d10_7 : decode prog_62_method_4_code 7 = .ok (.getfield 24, 3) := by decide +kernel
theorem d10_10 : decode prog_62_method_4_code 10 = .ok (.ifnull 15, 3) := by decide +kernel
theorem d10_13 : decode prog_62_method_4_code 13 = .ok (.aload_n 0, 1) := by decide +kernel
theorem d10_14 : decode prog_62_method_4_code 14 = .ok (.getfield 24, 3) := by decide +kernel
theorem d10_17 : decode prog_62_method_4_code 17 = .ok (.arraylength, 1) := by decide +kernel
theorem d10_18 : decode prog_62_method_4_code 18 = .ok (.aload_n 0, 1) := by decide +kernel
theorem d10_19 : decode prog_62_method_4_code 19 = .ok (.getfield 34, 3) := by decide +kernel
theorem d10_22 : decode prog_62_method_4_code 22 = .ok (.if_icmp .ge 32, 3) := by decide +kernel
theorem d10_25 : decode prog_62_method_4_code 25 = .ok (.aload_n 0, 1) := by decide +kernel
theorem d10_26 : decode prog_62_method_4_code 26 = .ok (.aload_n 0, 1) := by decide +kernel
theorem d10_27 : decode prog_62_method_4_code 27 = .ok (.getfield 24, 3) := by decide +kernel
theorem d10_30 : decode prog_62_method_4_code 30 = .ok (.ifnonnull 9, 3) := by decide +kernel
theorem d10_33 : decode prog_62_method_4_code 33 = .ok (.iconst 0, 1) := by decide +kernel
theorem d10_34 : decode prog_62_method_4_code 34 = .ok (.newarray .boolean, 2) := by decide +kernel
theorem d10_36 : decode prog_62_method_4_code 36 = .ok (.goto 7, 3) := by decide +kernel
theorem d10_39 : decode prog_62_method_4_code 39 = .ok (.aload_n 0, 1) := by decide +kernel
theorem d10_40 : decode prog_62_method_4_code 40 = .ok (.getfield 24, 3) := by decide +kernel
theorem d10_43 : decode prog_62_method_4_code 43 = .ok (.aload_n 0, 1) := by decide +kernel
theorem d10_44 : decode prog_62_method_4_code 44 = .ok (.getfield 13, 3) := by decide +kernel
theorem d10_47 : decode prog_62_method_4_code 47 = .ok (.arraylength, 1) := by decide +kernel
theorem d10_48 : decode prog_62_method_4_code 48 = .ok (.invokestatic 67, 3) := by decide +kernel
theorem d10_51 : decode prog_62_method_4_code 51 = .ok (.putfield 24, 3) := by decide +kernel
theorem d10_54 : decode prog_62_method_4_code 54 = .ok (.aload_n 0, 1) := by decide +kernel
theorem d10_55 : decode prog_62_method_4_code 55 = .ok (.getfield 24, 3) := by decide +kernel
theorem d10_58 : decode prog_62_method_4_code 58 = .ok (.aload_n 0, 1) := by decide +kernel
theorem d10_59 : decode prog_62_method_4_code 59 = .ok (.getfield 34, 3) := by decide +kernel
theorem d10_62 : decode prog_62_method_4_code 62 = .ok (.iconst 1, 1) := by decide +kernel
theorem d10_63 : decode prog_62_method_4_code 63 = .ok (.isub, 1) := by decide +kernel
theorem d10_64 : decode prog_62_method_4_code 64 = .ok (.iconst 1, 1) := by decide +kernel
theorem d10_65 : decode prog_62_method_4_code 65 = .ok (.bastore, 1) := by decide +kernel
theorem d10_66 : decode prog_62_method_4_code 66 = .ok (.aload_n 0, 1) := by decide +kernel
theorem d10_67 : decode prog_62_method_4_code 67 = .ok (.dup, 1) := by decide +kernel
theorem d10_68 : decode prog_62_method_4_code 68 = .ok (.getfield 20, 3) := by decide +kernel
theorem d10_71 : decode prog_62_method_4_code 71 = .ok (.iconst 1, 1) := by decide +kernel
theorem d10_72 : decode prog_62_method_4_code 72 = .ok (.iadd, 1) := by decide +kernel
theorem d10_73 : decode prog_62_method_4_code 73 = .ok (.putfield 20, 3) := by decide +kernel
theorem d10_76 : decode prog_62_method_4_code 76 = .ok (.return_, 1) := by decide +kernel
theorem pn_10 : plainName "com/example/quayside/quayside/Row" = true := by first | (simp [plainName, overriddenIn]; done) | decide +kernel
theorem pd_2 : parseMethodDescriptor "(II)V" = some ⟨[.int, .int], none⟩ := by decide +kernel
theorem pd_3 : parseMethodDescriptor "([ZI)[Z" = some ⟨[(.array .boolean), .int], some (.array .boolean)⟩ := by decide +kernel
def Q_rm10s (Z : State) (x : Addr) (o : Addr) (k : Nat) (cap : Nat) (f : Nat → Int32) (h0 : Heap) (n0 : Nat) (v : Option Value) (h : Heap) (L : List Loc) : Prop := v = none ∧ Fr n0 L ∧ own_Kx h0 h x ∧ (own_Row Z h n0 x o (k + 1) cap (own_set f k 1))
set_option maxRecDepth 65536 in
set_option maxHeartbeats 40000000 in
theorem rm10s (l : Launch) (Z : State) (a0 : Array Value) (hw : ∀ d ∈ tables_1, d.before a0 Z = true) (ws : List Jvm.Cond) (x : Addr) (o : Addr) (k : Nat) (cap : Nat) (f : Nat → Int32) (h0 : Heap) (n0 : Nat) (Z0 : n0 ≤ h0.size) (row : own_Row Z h0 n0 x o k cap f) (hk : k < cap) (pr2 : own_Lt h0 x) :
    own_Met l Z h0 (⟨"com/example/quayside/quayside/Row", "addNull", "()V"⟩ : MethodName) prog_62_method_4_code 1 none ws ({ frames := 2, cells := 2, slots := 8, locals := 33 } : Room) #[(.ref o)] (Q_rm10s Z x o k cap f h0 n0) := by
  refine own_enter (plainFor_of_name pn_10) ?_
  intro p e s m below meth c T0 X0 hx hby hml hret hlk hown hnm hZ e0
  have N0 := Fr.nil n0
  have kx0 : own_Kx h0 h0 x := own_Kx.refl
  rw [show entryFrame m #[(.ref o)] 1 = (mkF m 0 #[.val (.ref o)] []) from by first | (simp [entryFrame, mkF, argsToLocals, Value.category]; done) | rfl]
  obtain ⟨rs, re, bs, gs, ge, tx, r, hE, hF1, hF2, hF3, hF4, hF5, hF6, hA1, hA2, hg1, hg2, hg3, hn1, hn2, hn3, hn4, hn5, hn6, hkc, hcap, hf01, hN⟩ := row
  rcases hN with ⟨hm1, hm2, hf0⟩ | ⟨rn, mn, c', g, hm1, hm2, hA3, hg4, hn7, hn8, hn9, hn10, hmn, hmc, hck, hq1, hq2, hq3⟩
  · skip
    refine own_Go.of (S' := (T0.setTop (mkF m 3 #[.val (.ref o)] [(.int (0 : Int32)), (.int (0 : Int32)), (.ref o)]))) (fun t kt => ?_) ?_
    · show Steps p.tables e below (T0.setTop (mkF m 0 #[.val (.ref o)] [])) _
      refine XS.aloadN X0.here hx rfl (own_hb hby d10_0) rfl rfl ?_
      show Steps p.tables e below (T0.setTop (mkF m 1 #[.val (.ref o)] [(.ref o)])) _
      refine XS.iconst X0.here hx rfl (own_hb hby d10_1) ?_
      show Steps p.tables e below (T0.setTop (mkF m 2 #[.val (.ref o)] [(.int (0 : Int32)), (.ref o)])) _
      refine XS.iconst X0.here hx rfl (own_hb hby d10_2) ?_
      exact kt
    obtain ⟨cq276, kq276, q276a, q276b, q276c⟩ := isOf hZ e0 hE
    obtain ⟨_, _, ⟨T276, L276, k276, n276⟩, -, X276, ⟨Lc276, hQ276, l276, y276, z276⟩, st276⟩ := X0.virtualBack hx (y := (⟨"com/example/quayside/quayside/Row", "add", "(II)V"⟩ : MethodName)) (z := (⟨"com/example/quayside/quayside/Row", "add", "(II)V"⟩ : MethodName)) hown (mvT hZ (hw _ (List.mem_of_getElem? (i := 63) rfl))) (mvT hZ (hw _ (List.mem_of_getElem? (i := 26) rfl))) (notFace_of_selects (args := #[]) (mvT hZ (hw _ (List.mem_of_getElem? (i := 28) rfl)))) (mvT hZ (hw _ (List.mem_of_getElem? (i := 28) rfl))) (mvT hZ (hw _ (List.mem_of_getElem? (i := 27) rfl))) (by decide) (backOf (W := 0) (rm5s l Z a0 hw [] o 0 (0 : Int32) rs re k cap gs ge r tx bs .null (0 : Int32) h0 n0 Z0 hE hF1 hF2 hF3 hF4 hF5 hF6 hm1 hm2 hA1 hA2 hg1 hg2 hg3 hn1 hn2 hn3 (by decide) (by decide) (by omega) (by omega)) hZ (hw _ (List.mem_of_getElem? (i := 29) rfl)) (hw _ (List.mem_of_getElem? (i := 3) rfl)) (by decide) (by decide)) q276a q276c (g := (mkF m 3 #[.val (.ref o)] [(.int (0 : Int32)), (.int (0 : Int32)), (.ref o)])) rfl (by rw [hml]; rfl) (Steps.refl _) (argsL := [(.int (0 : Int32)), (.int (0 : Int32))]) (rest := []) (lenOf pd_2 rfl) rfl (by show 2 * 0 + _ ≤ _; exact Nat.le_of_eq rfl) (own_hb hby d10_3) (fun _ _ => ⟨rfl, e0, (by decide : 0 + 0 ≤ _), (by decide : 0 + 0 ≤ _)⟩)
    dsimp only [Pt.U, Pt.locs, Pt.cells, Pt.slots] at X276 l276 y276 z276 st276 hQ276
    subst l276 y276 z276
    obtain ⟨rfl, N276q, K276, p276_0, p276_1, p276_2, p276_3, p276_4, p276_5, p276_6, p276_7, p276_8, p276_9, p276_10⟩ := hQ276
    have N276 := Fr.app N0 N276q
    refine own_Go.of (S' := (T276.setTop (mkF m 6 #[.val (.ref o)] []))) (fun t kt => st276.trans kt) ?_
    have kx277 : own_Kx h0 T276.heap x := kx0.keep K276 (ninS hn4 (ninS hn5 (ninS hn6 nin0)))
    have f278 : own_Lt T276.heap x := pr2.keep K276
    have f279 : Exa Z T276.heap o "com/example/quayside/quayside/Row" := hE.keep K276
    have z280 : n0 ≤ T276.heap.size := Nat.le_trans Z0 K276.1
    refine own_Go.of (S' := (T276.setTop (mkF m 7 #[.val (.ref o)] [(.ref o)]))) (fun t kt => ?_) ?_
    · show Steps p.tables e below (T276.setTop (mkF m 6 #[.val (.ref o)] [])) _
      refine XS.aloadN X276.here hx rfl (own_hb hby d10_6) rfl rfl ?_
      exact kt
    obtain ⟨T281, X281, e281, st281⟩ := getF X276 hx hZ hown (host := "") (Or.inl (hw _ (List.mem_of_getElem? (i := 64) rfl))) Via.refl rfl p276_7 (g := (mkF m 7 #[.val (.ref o)] [(.ref o)])) rfl rfl (own_hb hby d10_7)
    refine own_Go.of (S' := (T281.setTop (mkF m 10 #[.val (.ref o)] [.null]))) st281 ?_
    refine own_Go.of (S' := (T281.setTop (mkF m 27 #[.val (.ref o)] [(.ref o), (.ref o)]))) (fun t kt => ?_) ?_
    · show Steps p.tables e below (T281.setTop (mkF m 10 #[.val (.ref o)] [.null])) _
      refine XS.ifnullYes X281.here hx rfl (pc0 := 10) (pc' := 25) rfl (own_hb hby d10_10) rfl (by decide) (by decide) ?_
      show Steps p.tables e below (T281.setTop (mkF m 25 #[.val (.ref o)] [])) _
      refine XS.aloadN X281.here hx rfl (own_hb hby d10_25) rfl rfl ?_
      show Steps p.tables e below (T281.setTop (mkF m 26 #[.val (.ref o)] [(.ref o)])) _
      refine XS.aloadN X281.here hx rfl (own_hb hby d10_26) rfl rfl ?_
      exact kt
    obtain ⟨T282, X282, e282, st282⟩ := getF X281 hx hZ hown (host := "") (Or.inl (hw _ (List.mem_of_getElem? (i := 64) rfl))) Via.refl e281 p276_7 (g := (mkF m 27 #[.val (.ref o)] [(.ref o), (.ref o)])) rfl rfl (own_hb hby d10_27)
    refine own_Go.of (S' := (T282.setTop (mkF m 30 #[.val (.ref o)] [.null, (.ref o)]))) st282 ?_
    refine own_Go.of (S' := (T282.setTop (mkF m 34 #[.val (.ref o)] [(.int (0 : Int32)), (.ref o)]))) (fun t kt => ?_) ?_
    · show Steps p.tables e below (T282.setTop (mkF m 30 #[.val (.ref o)] [.null, (.ref o)])) _
      refine XS.ifnonnullNo X282.here hx rfl (own_hb hby d10_30) rfl ?_
      show Steps p.tables e below (T282.setTop (mkF m 33 #[.val (.ref o)] [(.ref o)])) _
      refine XS.iconst X282.here hx rfl (own_hb hby d10_33) ?_
      exact kt
    obtain ⟨T283, h283, X283, e283, E283, A283, st283⟩ := own_newP X282 hx hZ (hw _ (List.mem_of_getElem? (i := 0) rfl)) e282 (g := (mkF m 34 #[.val (.ref o)] [(.int (0 : Int32)), (.ref o)])) rfl (own_hb hby d10_34) rfl (n := 0) (cap := 0) rfl (by decide) (by decide) (by decide) (by decide)
    obtain ⟨b283, g283⟩ : ∃ z, z = T276.heap.size := ⟨_, rfl⟩
    rw [← g283] at A283 st283
    have gx283 : n0 ≤ b283 := Nat.le_trans z280 (Nat.le_of_eq g283.symm)
    have ne284 : x ≠ b283 := Nat.ne_of_lt (Nat.lt_of_lt_of_le f278.lt (Nat.le_of_eq g283.symm))
    have ne285 : o ≠ b283 := Nat.ne_of_lt (Nat.lt_of_lt_of_le p276_0.lt (Nat.le_of_eq g283.symm))
    have ne286 : rs ≠ b283 := Nat.ne_of_lt (Nat.lt_of_lt_of_le p276_9.lt (Nat.le_of_eq g283.symm))
    have ne287 : re ≠ b283 := Nat.ne_of_lt (Nat.lt_of_lt_of_le p276_10.lt (Nat.le_of_eq g283.symm))
    refine own_Go.of (S' := (T283.setTop (mkF m 36 #[.val (.ref o)] [(.ref b283), (.ref o)]))) st283 ?_
    have kx288 : own_Kx h0 h283 x := kx277.ext E283
    have f289 : own_Lt h283 x := f278.ext E283
    have f290 : Exa Z h283 o "com/example/quayside/quayside/Row" := p276_0.ext E283
    have f291 : Fld Z h283 o "com/example/quayside/quayside/Row" "starts" "[I" (.ref rs) := p276_1.ext E283
    have f292 : Fld Z h283 o "com/example/quayside/quayside/Row" "ends" "[I" (.ref re) := p276_2.ext E283
    have f293 : Fld Z h283 o "com/example/quayside/quayside/Row" "size" "I" (.int (Int32.ofNat (k + 1))) := p276_3.ext E283
    have f294 : Fld Z h283 o "com/example/quayside/quayside/Row" "reach" "I" (.int (own_maxI r (0 : Int32))) := p276_4.ext E283
    have f295 : Fld Z h283 o "com/example/quayside/quayside/Row" "text" "Z" (.int (0 : Int32)) := p276_5.ext E283
    have f296 : Fld Z h283 o "com/example/quayside/quayside/Row" "bytes" "[B" (.ref bs) := p276_6.ext E283
    have f297 : Fld Z h283 o "com/example/quayside/quayside/Row" "nulls" "[Z" .null := p276_7.ext E283
    have f298 : Fld Z h283 o "com/example/quayside/quayside/Row" "nullCount" "I" (.int (0 : Int32)) := p276_8.ext E283
    have f299 : own_Ar Z h283 rs .int cap (own_I (own_set gs k (Int32.ofNat 0))) := p276_9.ext E283
    have f300 : own_Ar Z h283 re .int cap (own_I (own_set ge k (0 : Int32))) := p276_10.ext E283
    have z301 : n0 ≤ h283.size := Nat.le_trans z280 E283.1
    have f302 : own_Ar Z h283 b283 .boolean 0 (own_I (fun _ => (0 : Int32))) := A283
    refine own_Go.of (S' := (T283.setTop (mkF m 44 #[.val (.ref o)] [(.ref o), (.ref b283), (.ref o)]))) (fun t kt => ?_) ?_
    · show Steps p.tables e below (T283.setTop (mkF m 36 #[.val (.ref o)] [(.ref b283), (.ref o)])) _
      refine XS.goto X283.here hx rfl (pc0 := 36) (pc' := 43) rfl (own_hb hby d10_36) (by decide) (by decide) ?_
      show Steps p.tables e below (T283.setTop (mkF m 43 #[.val (.ref o)] [(.ref b283), (.ref o)])) _
      refine XS.aloadN X283.here hx rfl (own_hb hby d10_43) rfl rfl ?_
      exact kt
    obtain ⟨T303, X303, e303, st303⟩ := getF X283 hx hZ hown (host := "") (Or.inl (hw _ (List.mem_of_getElem? (i := 14) rfl))) Via.refl e283 f291 (g := (mkF m 44 #[.val (.ref o)] [(.ref o), (.ref b283), (.ref o)])) rfl rfl (own_hb hby d10_44)
    refine own_Go.of (S' := (T303.setTop (mkF m 47 #[.val (.ref o)] [(.ref rs), (.ref b283), (.ref o)]))) st303 ?_
    obtain ⟨cl304, Ar304, hln304⟩ := own_Ar.len f299
    refine own_Go.of (S' := (T303.setTop (mkF m 48 #[.val (.ref o)] [(.int (Int32.ofNat cap)), (.ref b283), (.ref o)]))) (fun t kt => ?_) ?_
    · show Steps p.tables e below (T303.setTop (mkF m 47 #[.val (.ref o)] [(.ref rs), (.ref b283), (.ref o)])) _
      refine X303.arraylength hx (by rw [e303]; exact Ar304.1) (State.isArrayOf_alike hZ.alike Ar304.2.1) (g := (mkF m 47 #[.val (.ref o)] [(.ref rs), (.ref b283), (.ref o)])) rfl rfl (own_hb hby d10_47) _ ?_
      rw [hln304]
      exact kt
    obtain ⟨_, _, ⟨T305, L305, k305, n305⟩, -, X305, ⟨Lc305, hQ305, l305, y305, z305⟩, st305⟩ := Jvm.LawKit.callS X303 hx (y := (⟨"java/util/Arrays", "copyOf", "([ZI)[Z"⟩ : MethodName)) hown (mvT hZ (hw _ (List.mem_of_getElem? (i := 66) rfl))) (mvT hZ (hw _ (List.mem_of_getElem? (i := 67) rfl))) (mvT hZ (hw _ (List.mem_of_getElem? (i := 68) rfl))) (mvT hZ (hw _ (List.mem_of_getElem? (i := 69) rfl))) (by decide) (backOf (W := 1) (rm11 l Z a0 hw [] b283 cap 0 (fun _ => (0 : Int32)) h283 n0 z301 f302 (by omega) (by omega)) hZ (hw _ (List.mem_of_getElem? (i := 69) rfl)) (hw _ (List.mem_of_getElem? (i := 68) rfl)) (by decide) (by decide)) (g := (mkF m 48 #[.val (.ref o)] [(.int (Int32.ofNat cap)), (.ref b283), (.ref o)])) rfl (by rw [hml]; rfl) (argsL := [(.ref b283), (.int (Int32.ofNat cap))]) (rest := [(.ref o)]) (lenOf pd_3 rfl) rfl (by show 2 * 0 + _ ≤ _; exact Nat.le_of_eq rfl) (own_hb hby d10_48) (fun _ _ => ⟨rfl, e303, (by decide : 1 + 1 ≤ _), (by decide : 0 + 8 ≤ _)⟩)
    dsimp only [Pt.U, Pt.locs, Pt.cells, Pt.slots] at X305 l305 y305 z305 st305 hQ305
    subst l305 y305 z305
    obtain ⟨b305, rfl, N305q, K305, p305_0, p305_1⟩ := hQ305
    have N305 := Fr.app N276 N305q
    refine own_Go.of (S' := (T305.setTop (mkF m 51 #[.val (.ref o)] [(.ref b305), (.ref o)]))) (fun t kt => st305 t kt) ?_
    have gx306 : n0 ≤ b305 := Nat.le_trans z301 p305_0
    have ne307 : x ≠ b305 := Nat.ne_of_lt (Nat.lt_of_lt_of_le f289.lt p305_0)
    have ne308 : o ≠ b305 := Nat.ne_of_lt (Nat.lt_of_lt_of_le f290.lt p305_0)
    have ne309 : rs ≠ b305 := Nat.ne_of_lt (Nat.lt_of_lt_of_le f299.lt p305_0)
    have ne310 : re ≠ b305 := Nat.ne_of_lt (Nat.lt_of_lt_of_le f300.lt p305_0)
    have ne311 : b283 ≠ b305 := Nat.ne_of_lt (Nat.lt_of_lt_of_le f302.lt p305_0)
    have kx312 : own_Kx h0 T305.heap x := kx288.keep K305 nin0
    have f313 : own_Lt T305.heap x := f289.keep K305
    have f314 : Exa Z T305.heap o "com/example/quayside/quayside/Row" := f290.keep K305
    have f315 : Fld Z T305.heap o "com/example/quayside/quayside/Row" "starts" "[I" (.ref rs) := f291.keep K305 nin0
    have f316 : Fld Z T305.heap o "com/example/quayside/quayside/Row" "ends" "[I" (.ref re) := f292.keep K305 nin0
    have f317 : Fld Z T305.heap o "com/example/quayside/quayside/Row" "size" "I" (.int (Int32.ofNat (k + 1))) := f293.keep K305 nin0
    have f318 : Fld Z T305.heap o "com/example/quayside/quayside/Row" "reach" "I" (.int (own_maxI r (0 : Int32))) := f294.keep K305 nin0
    have f319 : Fld Z T305.heap o "com/example/quayside/quayside/Row" "text" "Z" (.int (0 : Int32)) := f295.keep K305 nin0
    have f320 : Fld Z T305.heap o "com/example/quayside/quayside/Row" "bytes" "[B" (.ref bs) := f296.keep K305 nin0
    have f321 : Fld Z T305.heap o "com/example/quayside/quayside/Row" "nulls" "[Z" .null := f297.keep K305 nin0
    have f322 : Fld Z T305.heap o "com/example/quayside/quayside/Row" "nullCount" "I" (.int (0 : Int32)) := f298.keep K305 nin0
    have f323 : own_Ar Z T305.heap rs .int cap (own_I (own_set gs k (Int32.ofNat 0))) := f299.keep K305 nin0
    have f324 : own_Ar Z T305.heap re .int cap (own_I (own_set ge k (0 : Int32))) := f300.keep K305 nin0
    have f325 : own_Ar Z T305.heap b283 .boolean 0 (own_I (fun _ => (0 : Int32))) := f302.keep K305 nin0
    have z326 : n0 ≤ T305.heap.size := Nat.le_trans z301 K305.1
    obtain ⟨T327, h327, X327, e327, W327, st327⟩ := putF X305 hx hZ hown (host := "") (Or.inl (hw _ (List.mem_of_getElem? (i := 64) rfl))) Via.refl rfl f321 f314 (Or.inl (hw _ (List.mem_of_getElem? (i := 65) rfl))) (hw _ (List.mem_of_getElem? (i := 2) rfl)) (ty := (.array .boolean)) (by decide) rfl rfl (g := (mkF m 51 #[.val (.ref o)] [(.ref b305), (.ref o)])) rfl rfl (own_hb hby d10_51)
    refine own_Go.of (S' := (T327.setTop (mkF m 54 #[.val (.ref o)] []))) st327 ?_
    have kx328 : own_Kx h0 h327 x := kx312.wr W327 hn4
    have f329 : own_Lt h327 x := f313.wr W327
    have f330 : Exa Z h327 o "com/example/quayside/quayside/Row" := f314.wr W327
    have f331 : Fld Z h327 o "com/example/quayside/quayside/Row" "starts" "[I" (.ref rs) := f315.other W327 (Or.inr (slot_ne (Or.inl (hw _ (List.mem_of_getElem? (i := 15) rfl))) (Or.inl (hw _ (List.mem_of_getElem? (i := 65) rfl))) (by decide) (t := (.array .int)) (t' := (.array .boolean)) (by decide) (by decide)))
    have f332 : Fld Z h327 o "com/example/quayside/quayside/Row" "ends" "[I" (.ref re) := f316.other W327 (Or.inr (slot_ne (Or.inl (hw _ (List.mem_of_getElem? (i := 17) rfl))) (Or.inl (hw _ (List.mem_of_getElem? (i := 65) rfl))) (by decide) (t := (.array .int)) (t' := (.array .boolean)) (by decide) (by decide)))
    have f333 : Fld Z h327 o "com/example/quayside/quayside/Row" "size" "I" (.int (Int32.ofNat (k + 1))) := f317.other W327 (Or.inr (slot_ne (Or.inl (hw _ (List.mem_of_getElem? (i := 31) rfl))) (Or.inl (hw _ (List.mem_of_getElem? (i := 65) rfl))) (by decide) (t := .int) (t' := (.array .boolean)) (by decide) (by decide)))
    have f334 : Fld Z h327 o "com/example/quayside/quayside/Row" "reach" "I" (.int (own_maxI r (0 : Int32))) := f318.other W327 (Or.inr (slot_ne (Or.inl (hw _ (List.mem_of_getElem? (i := 33) rfl))) (Or.inl (hw _ (List.mem_of_getElem? (i := 65) rfl))) (by decide) (t := .int) (t' := (.array .boolean)) (by decide) (by decide)))
    have f335 : Fld Z h327 o "com/example/quayside/quayside/Row" "text" "Z" (.int (0 : Int32)) := f319.other W327 (Or.inr (slot_ne (Or.inl (hw _ (List.mem_of_getElem? (i := 39) rfl))) (Or.inl (hw _ (List.mem_of_getElem? (i := 65) rfl))) (by decide) (t := .boolean) (t' := (.array .boolean)) (by decide) (by decide)))
    have f336 : Fld Z h327 o "com/example/quayside/quayside/Row" "bytes" "[B" (.ref bs) := f320.other W327 (Or.inr (slot_ne (Or.inl (hw _ (List.mem_of_getElem? (i := 12) rfl))) (Or.inl (hw _ (List.mem_of_getElem? (i := 65) rfl))) (by decide) (t := (.array .byte)) (t' := (.array .boolean)) (by decide) (by decide)))
    have f337 : Fld Z h327 o "com/example/quayside/quayside/Row" "nullCount" "I" (.int (0 : Int32)) := f322.other W327 (Or.inr (slot_ne (Or.inl (hw _ (List.mem_of_getElem? (i := 52) rfl))) (Or.inl (hw _ (List.mem_of_getElem? (i := 65) rfl))) (by decide) (t := .int) (t' := (.array .boolean)) (by decide) (by decide)))
    have f338 : own_Ar Z h327 rs .int cap (own_I (own_set gs k (Int32.ofNat 0))) := f323.other W327 (Ne.symm hn1)
    have f339 : own_Ar Z h327 re .int cap (own_I (own_set ge k (0 : Int32))) := f324.other W327 (Ne.symm hn2)
    have f340 : own_Ar Z h327 b283 .boolean 0 (own_I (fun _ => (0 : Int32))) := f325.other W327 (Ne.symm ne285)
    have f341 : own_Ar Z h327 b305 .boolean cap (own_I (own_cpy (fun _ => (0 : Int32)) 0)) := p305_1.other W327 (Ne.symm ne308)
    have z342 : n0 ≤ h327.size := Nat.le_trans z326 (Keep.of_wr W327).1
    have f343 : Fld Z h327 o "com/example/quayside/quayside/Row" "nulls" "[Z" (.ref b305) := f321.same W327
    have N327 := Fr.snoc X327 N305 hg1
    refine own_Go.of (S' := (T327.setTop (mkF m 55 #[.val (.ref o)] [(.ref o)]))) (fun t kt => ?_) ?_
    · show Steps p.tables e below (T327.setTop (mkF m 54 #[.val (.ref o)] [])) _
      refine XS.aloadN X327.here hx rfl (own_hb hby d10_54) rfl rfl ?_
      exact kt
    obtain ⟨T344, X344, e344, st344⟩ := getF X327 hx hZ hown (host := "") (Or.inl (hw _ (List.mem_of_getElem? (i := 64) rfl))) Via.refl e327 f343 (g := (mkF m 55 #[.val (.ref o)] [(.ref o)])) rfl rfl (own_hb hby d10_55)
    refine own_Go.of (S' := (T344.setTop (mkF m 58 #[.val (.ref o)] [(.ref b305)]))) st344 ?_
    refine own_Go.of (S' := (T344.setTop (mkF m 59 #[.val (.ref o)] [(.ref o), (.ref b305)]))) (fun t kt => ?_) ?_
    · show Steps p.tables e below (T344.setTop (mkF m 58 #[.val (.ref o)] [(.ref b305)])) _
      refine XS.aloadN X344.here hx rfl (own_hb hby d10_58) rfl rfl ?_
      exact kt
    obtain ⟨T345, X345, e345, st345⟩ := getF X344 hx hZ hown (host := "") (Or.inl (hw _ (List.mem_of_getElem? (i := 30) rfl))) Via.refl e344 f333 (g := (mkF m 59 #[.val (.ref o)] [(.ref o), (.ref b305)])) rfl rfl (own_hb hby d10_59)
    refine own_Go.of (S' := (T345.setTop (mkF m 62 #[.val (.ref o)] [(.int (Int32.ofNat (k + 1))), (.ref b305)]))) st345 ?_
    refine own_Go.of (S' := (T345.setTop (mkF m 65 #[.val (.ref o)] [(.int (1 : Int32)), (.int (Int32.ofNat k)), (.ref b305)]))) (fun t kt => ?_) ?_
    · show Steps p.tables e below (T345.setTop (mkF m 62 #[.val (.ref o)] [(.int (Int32.ofNat (k + 1))), (.ref b305)])) _
      refine XS.iconst X345.here hx rfl (own_hb hby d10_62) ?_
      show Steps p.tables e below (T345.setTop (mkF m 63 #[.val (.ref o)] [(.int (1 : Int32)), (.int (Int32.ofNat (k + 1))), (.ref b305)])) _
      refine XS.isub X345.here hx rfl (own_hb hby d10_63) rfl ?_
      show Steps p.tables e below (T345.setTop (mkF m 64 #[.val (.ref o)] [(.int ((Int32.ofNat (k + 1)) - (1 : Int32))), (.ref b305)])) _
      rw [show Int32.ofNat (k + 1) - (1 : Int32) = Int32.ofNat k from own_subN (a := k + 1) (b := 1) (by omega)]
      show Steps p.tables e below (T345.setTop (mkF m 64 #[.val (.ref o)] [(.int (Int32.ofNat k)), (.ref b305)])) _
      refine XS.iconst X345.here hx rfl (own_hb hby d10_64) ?_
      exact kt
    obtain ⟨cl346, Ar346, hin346, ub346⟩ := own_Ar.put (j := (Int32.ofNat k)) (k := k) f341 ⟨rfl, by omega⟩
    obtain ⟨T346, h346, X346, e346, W346, st346⟩ := stZ X345 hx hZ e345 Ar346 (j := (Int32.ofNat k)) hin346 (g := (mkF m 65 #[.val (.ref o)] [(.int (1 : Int32)), (.int (Int32.ofNat k)), (.ref b305)])) rfl rfl (own_hb hby d10_65)
    refine own_Go.of (S' := (T346.setTop (mkF m 66 #[.val (.ref o)] []))) st346 ?_
    have kx347 : own_Kx h0 h346 x := kx328.wr W346 ne307
    have f348 : own_Lt h346 x := f329.wr W346
    have f349 : Exa Z h346 o "com/example/quayside/quayside/Row" := f330.wr W346
    have f350 : Fld Z h346 o "com/example/quayside/quayside/Row" "starts" "[I" (.ref rs) := f331.other W346 (Or.inl ne308)
    have f351 : Fld Z h346 o "com/example/quayside/quayside/Row" "ends" "[I" (.ref re) := f332.other W346 (Or.inl ne308)
    have f352 : Fld Z h346 o "com/example/quayside/quayside/Row" "size" "I" (.int (Int32.ofNat (k + 1))) := f333.other W346 (Or.inl ne308)
    have f353 : Fld Z h346 o "com/example/quayside/quayside/Row" "reach" "I" (.int (own_maxI r (0 : Int32))) := f334.other W346 (Or.inl ne308)
    have f354 : Fld Z h346 o "com/example/quayside/quayside/Row" "text" "Z" (.int (0 : Int32)) := f335.other W346 (Or.inl ne308)
    have f355 : Fld Z h346 o "com/example/quayside/quayside/Row" "bytes" "[B" (.ref bs) := f336.other W346 (Or.inl ne308)
    have f356 : Fld Z h346 o "com/example/quayside/quayside/Row" "nulls" "[Z" (.ref b305) := f343.other W346 (Or.inl ne308)
    have f357 : Fld Z h346 o "com/example/quayside/quayside/Row" "nullCount" "I" (.int (0 : Int32)) := f337.other W346 (Or.inl ne308)
    have f358 : own_Ar Z h346 rs .int cap (own_I (own_set gs k (Int32.ofNat 0))) := f338.other W346 ne309
    have f359 : own_Ar Z h346 re .int cap (own_I (own_set ge k (0 : Int32))) := f339.other W346 ne310
    have f360 : own_Ar Z h346 b283 .boolean 0 (own_I (fun _ => (0 : Int32))) := f340.other W346 ne311
    have z361 : n0 ≤ h346.size := Nat.le_trans z342 (Keep.of_wr W346).1
    have f362 : own_Ar Z h346 b305 .boolean cap (own_I (own_set (own_cpy (fun _ => (0 : Int32)) 0) k (nar .boolean (1 : Int32)))) := by rw [← own_upI]; exact ub346 (fits_nar_bool _) W346
    have N346 := Fr.snoc X346 N327 gx306
    refine own_Go.of (S' := (T346.setTop (mkF m 68 #[.val (.ref o)] [(.ref o), (.ref o)]))) (fun t kt => ?_) ?_
    · show Steps p.tables e below (T346.setTop (mkF m 66 #[.val (.ref o)] [])) _
      refine XS.aloadN X346.here hx rfl (own_hb hby d10_66) rfl rfl ?_
      show Steps p.tables e below (T346.setTop (mkF m 67 #[.val (.ref o)] [(.ref o)])) _
      refine XS.dup X346.here hx rfl (own_hb hby d10_67) rfl rfl ?_
      exact kt
    obtain ⟨T363, X363, e363, st363⟩ := getF X346 hx hZ hown (host := "") (Or.inl (hw _ (List.mem_of_getElem? (i := 51) rfl))) Via.refl e346 f357 (g := (mkF m 68 #[.val (.ref o)] [(.ref o), (.ref o)])) rfl rfl (own_hb hby d10_68)
    refine own_Go.of (S' := (T363.setTop (mkF m 71 #[.val (.ref o)] [(.int (0 : Int32)), (.ref o)]))) st363 ?_
    refine own_Go.of (S' := (T363.setTop (mkF m 73 #[.val (.ref o)] [(.int (Int32.ofNat 1)), (.ref o)]))) (fun t kt => ?_) ?_
    · show Steps p.tables e below (T363.setTop (mkF m 71 #[.val (.ref o)] [(.int (0 : Int32)), (.ref o)])) _
      refine XS.iconst X363.here hx rfl (own_hb hby d10_71) ?_
      show Steps p.tables e below (T363.setTop (mkF m 72 #[.val (.ref o)] [(.int (1 : Int32)), (.int (0 : Int32)), (.ref o)])) _
      refine XS.iadd X363.here hx rfl (own_hb hby d10_72) rfl ?_
      show Steps p.tables e below (T363.setTop (mkF m 73 #[.val (.ref o)] [(.int ((0 : Int32) + (1 : Int32))), (.ref o)])) _
      rw [show (0 : Int32) + (1 : Int32) = Int32.ofNat 1 from rfl]
      exact kt
    obtain ⟨T364, h364, X364, e364, W364, st364⟩ := putF X363 hx hZ hown (host := "") (Or.inl (hw _ (List.mem_of_getElem? (i := 51) rfl))) Via.refl e363 f357 f349 (Or.inl (hw _ (List.mem_of_getElem? (i := 52) rfl))) (hw _ (List.mem_of_getElem? (i := 2) rfl)) (ty := .int) (by decide) rfl rfl (g := (mkF m 73 #[.val (.ref o)] [(.int (Int32.ofNat 1)), (.ref o)])) rfl rfl (own_hb hby d10_73)
    refine own_Go.of (S' := (T364.setTop (mkF m 76 #[.val (.ref o)] []))) st364 ?_
    have kx365 : own_Kx h0 h364 x := kx347.wr W364 hn4
    have f366 : own_Lt h364 x := f348.wr W364
    have f367 : Exa Z h364 o "com/example/quayside/quayside/Row" := f349.wr W364
    have f368 : Fld Z h364 o "com/example/quayside/quayside/Row" "starts" "[I" (.ref rs) := f350.other W364 (Or.inr (slot_ne (Or.inl (hw _ (List.mem_of_getElem? (i := 15) rfl))) (Or.inl (hw _ (List.mem_of_getElem? (i := 52) rfl))) (by decide) (t := (.array .int)) (t' := .int) (by decide) (by decide)))
    have f369 : Fld Z h364 o "com/example/quayside/quayside/Row" "ends" "[I" (.ref re) := f351.other W364 (Or.inr (slot_ne (Or.inl (hw _ (List.mem_of_getElem? (i := 17) rfl))) (Or.inl (hw _ (List.mem_of_getElem? (i := 52) rfl))) (by decide) (t := (.array .int)) (t' := .int) (by decide) (by decide)))
    have f370 : Fld Z h364 o "com/example/quayside/quayside/Row" "size" "I" (.int (Int32.ofNat (k + 1))) := f352.other W364 (Or.inr (slot_ne (Or.inl (hw _ (List.mem_of_getElem? (i := 31) rfl))) (Or.inl (hw _ (List.mem_of_getElem? (i := 52) rfl))) (by decide) (t := .int) (t' := .int) (by decide) (by decide)))
    have f371 : Fld Z h364 o "com/example/quayside/quayside/Row" "reach" "I" (.int (own_maxI r (0 : Int32))) := f353.other W364 (Or.inr (slot_ne (Or.inl (hw _ (List.mem_of_getElem? (i := 33) rfl))) (Or.inl (hw _ (List.mem_of_getElem? (i := 52) rfl))) (by decide) (t := .int) (t' := .int) (by decide) (by decide)))
    have f372 : Fld Z h364 o "com/example/quayside/quayside/Row" "text" "Z" (.int (0 : Int32)) := f354.other W364 (Or.inr (slot_ne (Or.inl (hw _ (List.mem_of_getElem? (i := 39) rfl))) (Or.inl (hw _ (List.mem_of_getElem? (i := 52) rfl))) (by decide) (t := .boolean) (t' := .int) (by decide) (by decide)))
    have f373 : Fld Z h364 o "com/example/quayside/quayside/Row" "bytes" "[B" (.ref bs) := f355.other W364 (Or.inr (slot_ne (Or.inl (hw _ (List.mem_of_getElem? (i := 12) rfl))) (Or.inl (hw _ (List.mem_of_getElem? (i := 52) rfl))) (by decide) (t := (.array .byte)) (t' := .int) (by decide) (by decide)))
    have f374 : Fld Z h364 o "com/example/quayside/quayside/Row" "nulls" "[Z" (.ref b305) := f356.other W364 (Or.inr (slot_ne (Or.inl (hw _ (List.mem_of_getElem? (i := 65) rfl))) (Or.inl (hw _ (List.mem_of_getElem? (i := 52) rfl))) (by decide) (t := (.array .boolean)) (t' := .int) (by decide) (by decide)))
    have f375 : own_Ar Z h364 rs .int cap (own_I (own_set gs k (Int32.ofNat 0))) := f358.other W364 (Ne.symm hn1)
    have f376 : own_Ar Z h364 re .int cap (own_I (own_set ge k (0 : Int32))) := f359.other W364 (Ne.symm hn2)
    have f377 : own_Ar Z h364 b283 .boolean 0 (own_I (fun _ => (0 : Int32))) := f360.other W364 (Ne.symm ne285)
    have f378 : own_Ar Z h364 b305 .boolean cap (own_I (own_set (own_cpy (fun _ => (0 : Int32)) 0) k (nar .boolean (1 : Int32)))) := f362.other W364 (Ne.symm ne308)
    have z379 : n0 ≤ h364.size := Nat.le_trans z361 (Keep.of_wr W364).1
    have f380 : Fld Z h364 o "com/example/quayside/quayside/Row" "nullCount" "I" (.int (Int32.ofNat 1)) := f357.same W364
    have N364 := Fr.snoc X364 N346 hg1
    exact own_retV X364 hx hlk hret (own_hb hby d10_76) e364 ⟨rfl, N364, kx365, ⟨rs, re, bs, (own_set gs k (Int32.ofNat 0)), (own_set ge k (0 : Int32)), (0 : Int32), (own_maxI r (0 : Int32)), f367, f368, f369, f370, f371, f372, f373, f375, f376, hg1, hg2, hg3, hn1, hn2, hn3, hn4, hn5, hn6, (by omega), (by omega), own_s01 hf01 (Or.inr rfl), Or.inr ⟨b305, cap, 1, (own_set (own_cpy (fun _ => (0 : Int32)) 0) k (nar .boolean (1 : Int32))), f374, f380, f378, gx306, ne308, ne309, ne310, ne307, (by omega), (by omega), (by omega), own_nA hf0, (fun i _ _ => by omega), (fun q => by omega)⟩⟩⟩ (by decide) (by decide)
  · skip
    refine own_Go.of (S' := (T0.setTop (mkF m 3 #[.val (.ref o)] [(.int (0 : Int32)), (.int (0 : Int32)), (.ref o)]))) (fun t kt => ?_) ?_
    · show Steps p.tables e below (T0.setTop (mkF m 0 #[.val (.ref o)] [])) _
      refine XS.aloadN X0.here hx rfl (own_hb hby d10_0) rfl rfl ?_
      show Steps p.tables e below (T0.setTop (mkF m 1 #[.val (.ref o)] [(.ref o)])) _
      refine XS.iconst X0.here hx rfl (own_hb hby d10_1) ?_
      show Steps p.tables e below (T0.setTop (mkF m 2 #[.val (.ref o)] [(.int (0 : Int32)), (.ref o)])) _
      refine XS.iconst X0.here hx rfl (own_hb hby d10_2) ?_
      exact kt
    obtain ⟨cq381, kq381, q381a, q381b, q381c⟩ := isOf hZ e0 hE
    obtain ⟨_, _, ⟨T381, L381, k381, n381⟩, -, X381, ⟨Lc381, hQ381, l381, y381, z381⟩, st381⟩ := X0.virtualBack hx (y := (⟨"com/example/quayside/quayside/Row", "add", "(II)V"⟩ : MethodName)) (z := (⟨"com/example/quayside/quayside/Row", "add", "(II)V"⟩ : MethodName)) hown (mvT hZ (hw _ (List.mem_of_getElem? (i := 63) rfl))) (mvT hZ (hw _ (List.mem_of_getElem? (i := 26) rfl))) (notFace_of_selects (args := #[]) (mvT hZ (hw _ (List.mem_of_getElem? (i := 28) rfl)))) (mvT hZ (hw _ (List.mem_of_getElem? (i := 28) rfl))) (mvT hZ (hw _ (List.mem_of_getElem? (i := 27) rfl))) (by decide) (backOf (W := 0) (rm5s l Z a0 hw [] o 0 (0 : Int32) rs re k cap gs ge r tx bs (.ref rn) (Int32.ofNat c') h0 n0 Z0 hE hF1 hF2 hF3 hF4 hF5 hF6 hm1 hm2 hA1 hA2 hg1 hg2 hg3 hn1 hn2 hn3 (by decide) (by decide) (by omega) (by omega)) hZ (hw _ (List.mem_of_getElem? (i := 29) rfl)) (hw _ (List.mem_of_getElem? (i := 3) rfl)) (by decide) (by decide)) q381a q381c (g := (mkF m 3 #[.val (.ref o)] [(.int (0 : Int32)), (.int (0 : Int32)), (.ref o)])) rfl (by rw [hml]; rfl) (Steps.refl _) (argsL := [(.int (0 : Int32)), (.int (0 : Int32))]) (rest := []) (lenOf pd_2 rfl) rfl (by show 2 * 0 + _ ≤ _; exact Nat.le_of_eq rfl) (own_hb hby d10_3) (fun _ _ => ⟨rfl, e0, (by decide : 0 + 0 ≤ _), (by decide : 0 + 0 ≤ _)⟩)
    dsimp only [Pt.U, Pt.locs, Pt.cells, Pt.slots] at X381 l381 y381 z381 st381 hQ381
    subst l381 y381 z381
    obtain ⟨rfl, N381q, K381, p381_0, p381_1, p381_2, p381_3, p381_4, p381_5, p381_6, p381_7, p381_8, p381_9, p381_10⟩ := hQ381
    have N381 := Fr.app N0 N381q
    refine own_Go.of (S' := (T381.setTop (mkF m 6 #[.val (.ref o)] []))) (fun t kt => st381.trans kt) ?_
    have kx382 : own_Kx h0 T381.heap x := kx0.keep K381 (ninS hn4 (ninS hn5 (ninS hn6 nin0)))
    have f383 : own_Lt T381.heap x := pr2.keep K381
    have f384 : Exa Z T381.heap o "com/example/quayside/quayside/Row" := hE.keep K381
    have f385 : own_Ar Z T381.heap rn .boolean mn (own_I g) := hA3.keep K381 (ninS (Ne.symm hn7) (ninS (Ne.symm hn8) (ninS (Ne.symm hn9) nin0)))
    have z386 : n0 ≤ T381.heap.size := Nat.le_trans Z0 K381.1
    refine own_Go.of (S' := (T381.setTop (mkF m 7 #[.val (.ref o)] [(.ref o)]))) (fun t kt => ?_) ?_
    · show Steps p.tables e below (T381.setTop (mkF m 6 #[.val (.ref o)] [])) _
      refine XS.aloadN X381.here hx rfl (own_hb hby d10_6) rfl rfl ?_
      exact kt
    obtain ⟨T387, X387, e387, st387⟩ := getF X381 hx hZ hown (host := "") (Or.inl (hw _ (List.mem_of_getElem? (i := 64) rfl))) Via.refl rfl p381_7 (g := (mkF m 7 #[.val (.ref o)] [(.ref o)])) rfl rfl (own_hb hby d10_7)
    refine own_Go.of (S' := (T387.setTop (mkF m 10 #[.val (.ref o)] [(.ref rn)]))) st387 ?_
    refine own_Go.of (S' := (T387.setTop (mkF m 14 #[.val (.ref o)] [(.ref o)]))) (fun t kt => ?_) ?_
    · show Steps p.tables e below (T387.setTop (mkF m 10 #[.val (.ref o)] [(.ref rn)])) _
      refine XS.ifnullNo X387.here hx rfl (own_hb hby d10_10) rfl ?_
      show Steps p.tables e below (T387.setTop (mkF m 13 #[.val (.ref o)] [])) _
      refine XS.aloadN X387.here hx rfl (own_hb hby d10_13) rfl rfl ?_
      exact kt
    obtain ⟨T388, X388, e388, st388⟩ := getF X387 hx hZ hown (host := "") (Or.inl (hw _ (List.mem_of_getElem? (i := 64) rfl))) Via.refl e387 p381_7 (g := (mkF m 14 #[.val (.ref o)] [(.ref o)])) rfl rfl (own_hb hby d10_14)
    refine own_Go.of (S' := (T388.setTop (mkF m 17 #[.val (.ref o)] [(.ref rn)]))) st388 ?_
    obtain ⟨cl389, Ar389, hln389⟩ := own_Ar.len f385
    refine own_Go.of (S' := (T388.setTop (mkF m 19 #[.val (.ref o)] [(.ref o), (.int (Int32.ofNat mn))]))) (fun t kt => ?_) ?_
    · show Steps p.tables e below (T388.setTop (mkF m 17 #[.val (.ref o)] [(.ref rn)])) _
      refine X388.arraylength hx (by rw [e388]; exact Ar389.1) (State.isArrayOf_alike hZ.alike Ar389.2.1) (g := (mkF m 17 #[.val (.ref o)] [(.ref rn)])) rfl rfl (own_hb hby d10_17) _ ?_
      rw [hln389]
      show Steps p.tables e below (T388.setTop (mkF m 18 #[.val (.ref o)] [(.int (Int32.ofNat mn))])) _
      refine XS.aloadN X388.here hx rfl (own_hb hby d10_18) rfl rfl ?_
      exact kt
    obtain ⟨T390, X390, e390, st390⟩ := getF X388 hx hZ hown (host := "") (Or.inl (hw _ (List.mem_of_getElem? (i := 30) rfl))) Via.refl e388 p381_3 (g := (mkF m 19 #[.val (.ref o)] [(.ref o), (.int (Int32.ofNat mn))])) rfl rfl (own_hb hby d10_19)
    refine own_Go.of (S' := (T390.setTop (mkF m 22 #[.val (.ref o)] [(.int (Int32.ofNat (k + 1))), (.int (Int32.ofNat mn))]))) st390 ?_
    by_cases hc22_391 : mn < (k + 1)
    · skip
      refine own_Go.of (S' := (T390.setTop (mkF m 27 #[.val (.ref o)] [(.ref o), (.ref o)]))) (fun t kt => ?_) ?_
      · show Steps p.tables e below (T390.setTop (mkF m 22 #[.val (.ref o)] [(.int (Int32.ofNat (k + 1))), (.int (Int32.ofNat mn))])) _
        refine XS.icmpNo X390.here hx rfl (own_hb hby d10_22) rfl (tlt ((own_ltN (by omega) (by omega)).mpr hc22_391)).2.1 ?_
        show Steps p.tables e below (T390.setTop (mkF m 25 #[.val (.ref o)] [])) _
        refine XS.aloadN X390.here hx rfl (own_hb hby d10_25) rfl rfl ?_
        show Steps p.tables e below (T390.setTop (mkF m 26 #[.val (.ref o)] [(.ref o)])) _
        refine XS.aloadN X390.here hx rfl (own_hb hby d10_26) rfl rfl ?_
        exact kt
      obtain ⟨T392, X392, e392, st392⟩ := getF X390 hx hZ hown (host := "") (Or.inl (hw _ (List.mem_of_getElem? (i := 64) rfl))) Via.refl e390 p381_7 (g := (mkF m 27 #[.val (.ref o)] [(.ref o), (.ref o)])) rfl rfl (own_hb hby d10_27)
      refine own_Go.of (S' := (T392.setTop (mkF m 30 #[.val (.ref o)] [(.ref rn), (.ref o)]))) st392 ?_
      refine own_Go.of (S' := (T392.setTop (mkF m 40 #[.val (.ref o)] [(.ref o), (.ref o)]))) (fun t kt => ?_) ?_
      · show Steps p.tables e below (T392.setTop (mkF m 30 #[.val (.ref o)] [(.ref rn), (.ref o)])) _
        refine XS.ifnonnullYes X392.here hx rfl (pc0 := 30) (pc' := 39) rfl (own_hb hby d10_30) rfl (by decide) (by decide) ?_
        show Steps p.tables e below (T392.setTop (mkF m 39 #[.val (.ref o)] [(.ref o)])) _
        refine XS.aloadN X392.here hx rfl (own_hb hby d10_39) rfl rfl ?_
        exact kt
      obtain ⟨T393, X393, e393, st393⟩ := getF X392 hx hZ hown (host := "") (Or.inl (hw _ (List.mem_of_getElem? (i := 64) rfl))) Via.refl e392 p381_7 (g := (mkF m 40 #[.val (.ref o)] [(.ref o), (.ref o)])) rfl rfl (own_hb hby d10_40)
      refine own_Go.of (S' := (T393.setTop (mkF m 43 #[.val (.ref o)] [(.ref rn), (.ref o)]))) st393 ?_
      refine own_Go.of (S' := (T393.setTop (mkF m 44 #[.val (.ref o)] [(.ref o), (.ref rn), (.ref o)]))) (fun t kt => ?_) ?_
      · show Steps p.tables e below (T393.setTop (mkF m 43 #[.val (.ref o)] [(.ref rn), (.ref o)])) _
        refine XS.aloadN X393.here hx rfl (own_hb hby d10_43) rfl rfl ?_
        exact kt
      obtain ⟨T394, X394, e394, st394⟩ := getF X393 hx hZ hown (host := "") (Or.inl (hw _ (List.mem_of_getElem? (i := 14) rfl))) Via.refl e393 p381_1 (g := (mkF m 44 #[.val (.ref o)] [(.ref o), (.ref rn), (.ref o)])) rfl rfl (own_hb hby d10_44)
      refine own_Go.of (S' := (T394.setTop (mkF m 47 #[.val (.ref o)] [(.ref rs), (.ref rn), (.ref o)]))) st394 ?_
      obtain ⟨cl395, Ar395, hln395⟩ := own_Ar.len p381_9
      refine own_Go.of (S' := (T394.setTop (mkF m 48 #[.val (.ref o)] [(.int (Int32.ofNat cap)), (.ref rn), (.ref o)]))) (fun t kt => ?_) ?_
      · show Steps p.tables e below (T394.setTop (mkF m 47 #[.val (.ref o)] [(.ref rs), (.ref rn), (.ref o)])) _
        refine X394.arraylength hx (by rw [e394]; exact Ar395.1) (State.isArrayOf_alike hZ.alike Ar395.2.1) (g := (mkF m 47 #[.val (.ref o)] [(.ref rs), (.ref rn), (.ref o)])) rfl rfl (own_hb hby d10_47) _ ?_
        rw [hln395]
        exact kt
      obtain ⟨_, _, ⟨T396, L396, k396, n396⟩, -, X396, ⟨Lc396, hQ396, l396, y396, z396⟩, st396⟩ := Jvm.LawKit.callS X394 hx (y := (⟨"java/util/Arrays", "copyOf", "([ZI)[Z"⟩ : MethodName)) hown (mvT hZ (hw _ (List.mem_of_getElem? (i := 66) rfl))) (mvT hZ (hw _ (List.mem_of_getElem? (i := 67) rfl))) (mvT hZ (hw _ (List.mem_of_getElem? (i := 68) rfl))) (mvT hZ (hw _ (List.mem_of_getElem? (i := 69) rfl))) (by decide) (backOf (W := 1) (rm11 l Z a0 hw [] rn cap mn g T381.heap n0 z386 f385 (by omega) (by omega)) hZ (hw _ (List.mem_of_getElem? (i := 69) rfl)) (hw _ (List.mem_of_getElem? (i := 68) rfl)) (by decide) (by decide)) (g := (mkF m 48 #[.val (.ref o)] [(.int (Int32.ofNat cap)), (.ref rn), (.ref o)])) rfl (by rw [hml]; rfl) (argsL := [(.ref rn), (.int (Int32.ofNat cap))]) (rest := [(.ref o)]) (lenOf pd_3 rfl) rfl (by show 2 * 0 + _ ≤ _; exact Nat.le_of_eq rfl) (own_hb hby d10_48) (fun _ _ => ⟨rfl, e394, (by decide : 0 + 1 ≤ _), (by decide : 0 + 8 ≤ _)⟩)
      dsimp only [Pt.U, Pt.locs, Pt.cells, Pt.slots] at X396 l396 y396 z396 st396 hQ396
      subst l396 y396 z396
      obtain ⟨b396, rfl, N396q, K396, p396_0, p396_1⟩ := hQ396
      have N396 := Fr.app N381 N396q
      refine own_Go.of (S' := (T396.setTop (mkF m 51 #[.val (.ref o)] [(.ref b396), (.ref o)]))) (fun t kt => st396 t kt) ?_
      have gx397 : n0 ≤ b396 := Nat.le_trans z386 p396_0
      have ne398 : x ≠ b396 := Nat.ne_of_lt (Nat.lt_of_lt_of_le f383.lt p396_0)
      have ne399 : o ≠ b396 := Nat.ne_of_lt (Nat.lt_of_lt_of_le p381_0.lt p396_0)
      have ne400 : rn ≠ b396 := Nat.ne_of_lt (Nat.lt_of_lt_of_le f385.lt p396_0)
      have ne401 : rs ≠ b396 := Nat.ne_of_lt (Nat.lt_of_lt_of_le p381_9.lt p396_0)
      have ne402 : re ≠ b396 := Nat.ne_of_lt (Nat.lt_of_lt_of_le p381_10.lt p396_0)
      have kx403 : own_Kx h0 T396.heap x := kx382.keep K396 nin0
      have f404 : own_Lt T396.heap x := f383.keep K396
      have f405 : Exa Z T396.heap o "com/example/quayside/quayside/Row" := p381_0.keep K396
      have f406 : own_Ar Z T396.heap rn .boolean mn (own_I g) := f385.keep K396 nin0
      have f407 : Fld Z T396.heap o "com/example/quayside/quayside/Row" "starts" "[I" (.ref rs) := p381_1.keep K396 nin0
      have f408 : Fld Z T396.heap o "com/example/quayside/quayside/Row" "ends" "[I" (.ref re) := p381_2.keep K396 nin0
      have f409 : Fld Z T396.heap o "com/example/quayside/quayside/Row" "size" "I" (.int (Int32.ofNat (k + 1))) := p381_3.keep K396 nin0
      have f410 : Fld Z T396.heap o "com/example/quayside/quayside/Row" "reach" "I" (.int (own_maxI r (0 : Int32))) := p381_4.keep K396 nin0
      have f411 : Fld Z T396.heap o "com/example/quayside/quayside/Row" "text" "Z" (.int (0 : Int32)) := p381_5.keep K396 nin0
      have f412 : Fld Z T396.heap o "com/example/quayside/quayside/Row" "bytes" "[B" (.ref bs) := p381_6.keep K396 nin0
      have f413 : Fld Z T396.heap o "com/example/quayside/quayside/Row" "nulls" "[Z" (.ref rn) := p381_7.keep K396 nin0
      have f414 : Fld Z T396.heap o "com/example/quayside/quayside/Row" "nullCount" "I" (.int (Int32.ofNat c')) := p381_8.keep K396 nin0
      have f415 : own_Ar Z T396.heap rs .int cap (own_I (own_set gs k (Int32.ofNat 0))) := p381_9.keep K396 nin0
      have f416 : own_Ar Z T396.heap re .int cap (own_I (own_set ge k (0 : Int32))) := p381_10.keep K396 nin0
      have z417 : n0 ≤ T396.heap.size := Nat.le_trans z386 K396.1
      obtain ⟨T418, h418, X418, e418, W418, st418⟩ := putF X396 hx hZ hown (host := "") (Or.inl (hw _ (List.mem_of_getElem? (i := 64) rfl))) Via.refl rfl f413 f405 (Or.inl (hw _ (List.mem_of_getElem? (i := 65) rfl))) (hw _ (List.mem_of_getElem? (i := 2) rfl)) (ty := (.array .boolean)) (by decide) rfl rfl (g := (mkF m 51 #[.val (.ref o)] [(.ref b396), (.ref o)])) rfl rfl (own_hb hby d10_51)
      refine own_Go.of (S' := (T418.setTop (mkF m 54 #[.val (.ref o)] []))) st418 ?_
      have kx419 : own_Kx h0 h418 x := kx403.wr W418 hn4
      have f420 : own_Lt h418 x := f404.wr W418
      have f421 : Exa Z h418 o "com/example/quayside/quayside/Row" := f405.wr W418
      have f422 : own_Ar Z h418 rn .boolean mn (own_I g) := f406.other W418 (Ne.symm hn7)
      have f423 : Fld Z h418 o "com/example/quayside/quayside/Row" "starts" "[I" (.ref rs) := f407.other W418 (Or.inr (slot_ne (Or.inl (hw _ (List.mem_of_getElem? (i := 15) rfl))) (Or.inl (hw _ (List.mem_of_getElem? (i := 65) rfl))) (by decide) (t := (.array .int)) (t' := (.array .boolean)) (by decide) (by decide)))
      have f424 : Fld Z h418 o "com/example/quayside/quayside/Row" "ends" "[I" (.ref re) := f408.other W418 (Or.inr (slot_ne (Or.inl (hw _ (List.mem_of_getElem? (i := 17) rfl))) (Or.inl (hw _ (List.mem_of_getElem? (i := 65) rfl))) (by decide) (t := (.array .int)) (t' := (.array .boolean)) (by decide) (by decide)))
      have f425 : Fld Z h418 o "com/example/quayside/quayside/Row" "size" "I" (.int (Int32.ofNat (k + 1))) := f409.other W418 (Or.inr (slot_ne (Or.inl (hw _ (List.mem_of_getElem? (i := 31) rfl))) (Or.inl (hw _ (List.mem_of_getElem? (i := 65) rfl))) (by decide) (t := .int) (t' := (.array .boolean)) (by decide) (by decide)))
      have f426 : Fld Z h418 o "com/example/quayside/quayside/Row" "reach" "I" (.int (own_maxI r (0 : Int32))) := f410.other W418 (Or.inr (slot_ne (Or.inl (hw _ (List.mem_of_getElem? (i := 33) rfl))) (Or.inl (hw _ (List.mem_of_getElem? (i := 65) rfl))) (by decide) (t := .int) (t' := (.array .boolean)) (by decide) (by decide)))
      have f427 : Fld Z h418 o "com/example/quayside/quayside/Row" "text" "Z" (.int (0 : Int32)) := f411.other W418 (Or.inr (slot_ne (Or.inl (hw _ (List.mem_of_getElem? (i := 39) rfl))) (Or.inl (hw _ (List.mem_of_getElem? (i := 65) rfl))) (by decide) (t := .boolean) (t' := (.array .boolean)) (by decide) (by decide)))
      have f428 : Fld Z h418 o "com/example/quayside/quayside/Row" "bytes" "[B" (.ref bs) := f412.other W418 (Or.inr (slot_ne (Or.inl (hw _ (List.mem_of_getElem? (i := 12) rfl))) (Or.inl (hw _ (List.mem_of_getElem? (i := 65) rfl))) (by decide) (t := (.array .byte)) (t' := (.array .boolean)) (by decide) (by decide)))
      have f429 : Fld Z h418 o "com/example/quayside/quayside/Row" "nullCount" "I" (.int (Int32.ofNat c')) := f414.other W418 (Or.inr (slot_ne (Or.inl (hw _ (List.mem_of_getElem? (i := 52) rfl))) (Or.inl (hw _ (List.mem_of_getElem? (i := 65) rfl))) (by decide) (t := .int) (t' := (.array .boolean)) (by decide) (by decide)))
      have f430 : own_Ar Z h418 rs .int cap (own_I (own_set gs k (Int32.ofNat 0))) := f415.other W418 (Ne.symm hn1)
      have f431 : own_Ar Z h418 re .int cap (own_I (own_set ge k (0 : Int32))) := f416.other W418 (Ne.symm hn2)
      have f432 : own_Ar Z h418 b396 .boolean cap (own_I (own_cpy g mn)) := p396_1.other W418 (Ne.symm ne399)
      have z433 : n0 ≤ h418.size := Nat.le_trans z417 (Keep.of_wr W418).1
      have f434 : Fld Z h418 o "com/example/quayside/quayside/Row" "nulls" "[Z" (.ref b396) := f413.same W418
      have N418 := Fr.snoc X418 N396 hg1
      refine own_Go.of (S' := (T418.setTop (mkF m 55 #[.val (.ref o)] [(.ref o)]))) (fun t kt => ?_) ?_
      · show Steps p.tables e below (T418.setTop (mkF m 54 #[.val (.ref o)] [])) _
        refine XS.aloadN X418.here hx rfl (own_hb hby d10_54) rfl rfl ?_
        exact kt
      obtain ⟨T435, X435, e435, st435⟩ := getF X418 hx hZ hown (host := "") (Or.inl (hw _ (List.mem_of_getElem? (i := 64) rfl))) Via.refl e418 f434 (g := (mkF m 55 #[.val (.ref o)] [(.ref o)])) rfl rfl (own_hb hby d10_55)
      refine own_Go.of (S' := (T435.setTop (mkF m 58 #[.val (.ref o)] [(.ref b396)]))) st435 ?_
      refine own_Go.of (S' := (T435.setTop (mkF m 59 #[.val (.ref o)] [(.ref o), (.ref b396)]))) (fun t kt => ?_) ?_
      · show Steps p.tables e below (T435.setTop (mkF m 58 #[.val (.ref o)] [(.ref b396)])) _
        refine XS.aloadN X435.here hx rfl (own_hb hby d10_58) rfl rfl ?_
        exact kt
      obtain ⟨T436, X436, e436, st436⟩ := getF X435 hx hZ hown (host := "") (Or.inl (hw _ (List.mem_of_getElem? (i := 30) rfl))) Via.refl e435 f425 (g := (mkF m 59 #[.val (.ref o)] [(.ref o), (.ref b396)])) rfl rfl (own_hb hby d10_59)
      refine own_Go.of (S' := (T436.setTop (mkF m 62 #[.val (.ref o)] [(.int (Int32.ofNat (k + 1))), (.ref b396)]))) st436 ?_
      refine own_Go.of (S' := (T436.setTop (mkF m 65 #[.val (.ref o)] [(.int (1 : Int32)), (.int (Int32.ofNat k)), (.ref b396)]))) (fun t kt => ?_) ?_
      · show Steps p.tables e below (T436.setTop (mkF m 62 #[.val (.ref o)] [(.int (Int32.ofNat (k + 1))), (.ref b396)])) _
        refine XS.iconst X436.here hx rfl (own_hb hby d10_62) ?_
        show Steps p.tables e below (T436.setTop (mkF m 63 #[.val (.ref o)] [(.int (1 : Int32)), (.int (Int32.ofNat (k + 1))), (.ref b396)])) _
        refine XS.isub X436.here hx rfl (own_hb hby d10_63) rfl ?_
        show Steps p.tables e below (T436.setTop (mkF m 64 #[.val (.ref o)] [(.int ((Int32.ofNat (k + 1)) - (1 : Int32))), (.ref b396)])) _
        rw [show Int32.ofNat (k + 1) - (1 : Int32) = Int32.ofNat k from own_subN (a := k + 1) (b := 1) (by omega)]
        show Steps p.tables e below (T436.setTop (mkF m 64 #[.val (.ref o)] [(.int (Int32.ofNat k)), (.ref b396)])) _
        refine XS.iconst X436.here hx rfl (own_hb hby d10_64) ?_
        exact kt
      obtain ⟨cl437, Ar437, hin437, ub437⟩ := own_Ar.put (j := (Int32.ofNat k)) (k := k) f432 ⟨rfl, by omega⟩
      obtain ⟨T437, h437, X437, e437, W437, st437⟩ := stZ X436 hx hZ e436 Ar437 (j := (Int32.ofNat k)) hin437 (g := (mkF m 65 #[.val (.ref o)] [(.int (1 : Int32)), (.int (Int32.ofNat k)), (.ref b396)])) rfl rfl (own_hb hby d10_65)
      refine own_Go.of (S' := (T437.setTop (mkF m 66 #[.val (.ref o)] []))) st437 ?_
      have kx438 : own_Kx h0 h437 x := kx419.wr W437 ne398
      have f439 : own_Lt h437 x := f420.wr W437
      have f440 : Exa Z h437 o "com/example/quayside/quayside/Row" := f421.wr W437
      have f441 : own_Ar Z h437 rn .boolean mn (own_I g) := f422.other W437 ne400
      have f442 : Fld Z h437 o "com/example/quayside/quayside/Row" "starts" "[I" (.ref rs) := f423.other W437 (Or.inl ne399)
      have f443 : Fld Z h437 o "com/example/quayside/quayside/Row" "ends" "[I" (.ref re) := f424.other W437 (Or.inl ne399)
      have f444 : Fld Z h437 o "com/example/quayside/quayside/Row" "size" "I" (.int (Int32.ofNat (k + 1))) := f425.other W437 (Or.inl ne399)
      have f445 : Fld Z h437 o "com/example/quayside/quayside/Row" "reach" "I" (.int (own_maxI r (0 : Int32))) := f426.other W437 (Or.inl ne399)
      have f446 : Fld Z h437 o "com/example/quayside/quayside/Row" "text" "Z" (.int (0 : Int32)) := f427.other W437 (Or.inl ne399)
      have f447 : Fld Z h437 o "com/example/quayside/quayside/Row" "bytes" "[B" (.ref bs) := f428.other W437 (Or.inl ne399)
      have f448 : Fld Z h437 o "com/example/quayside/quayside/Row" "nulls" "[Z" (.ref b396) := f434.other W437 (Or.inl ne399)
      have f449 : Fld Z h437 o "com/example/quayside/quayside/Row" "nullCount" "I" (.int (Int32.ofNat c')) := f429.other W437 (Or.inl ne399)
      have f450 : own_Ar Z h437 rs .int cap (own_I (own_set gs k (Int32.ofNat 0))) := f430.other W437 ne401
      have f451 : own_Ar Z h437 re .int cap (own_I (own_set ge k (0 : Int32))) := f431.other W437 ne402
      have z452 : n0 ≤ h437.size := Nat.le_trans z433 (Keep.of_wr W437).1
      have f453 : own_Ar Z h437 b396 .boolean cap (own_I (own_set (own_cpy g mn) k (nar .boolean (1 : Int32)))) := by rw [← own_upI]; exact ub437 (fits_nar_bool _) W437
      have N437 := Fr.snoc X437 N418 gx397
      refine own_Go.of (S' := (T437.setTop (mkF m 68 #[.val (.ref o)] [(.ref o), (.ref o)]))) (fun t kt => ?_) ?_
      · show Steps p.tables e below (T437.setTop (mkF m 66 #[.val (.ref o)] [])) _
        refine XS.aloadN X437.here hx rfl (own_hb hby d10_66) rfl rfl ?_
        show Steps p.tables e below (T437.setTop (mkF m 67 #[.val (.ref o)] [(.ref o)])) _
        refine XS.dup X437.here hx rfl (own_hb hby d10_67) rfl rfl ?_
        exact kt
      obtain ⟨T454, X454, e454, st454⟩ := getF X437 hx hZ hown (host := "") (Or.inl (hw _ (List.mem_of_getElem? (i := 51) rfl))) Via.refl e437 f449 (g := (mkF m 68 #[.val (.ref o)] [(.ref o), (.ref o)])) rfl rfl (own_hb hby d10_68)
      refine own_Go.of (S' := (T454.setTop (mkF m 71 #[.val (.ref o)] [(.int (Int32.ofNat c')), (.ref o)]))) st454 ?_
      refine own_Go.of (S' := (T454.setTop (mkF m 73 #[.val (.ref o)] [(.int (Int32.ofNat (c' + 1))), (.ref o)]))) (fun t kt => ?_) ?_
      · show Steps p.tables e below (T454.setTop (mkF m 71 #[.val (.ref o)] [(.int (Int32.ofNat c')), (.ref o)])) _
        refine XS.iconst X454.here hx rfl (own_hb hby d10_71) ?_
        show Steps p.tables e below (T454.setTop (mkF m 72 #[.val (.ref o)] [(.int (1 : Int32)), (.int (Int32.ofNat c')), (.ref o)])) _
        refine XS.iadd X454.here hx rfl (own_hb hby d10_72) rfl ?_
        show Steps p.tables e below (T454.setTop (mkF m 73 #[.val (.ref o)] [(.int ((Int32.ofNat c') + (1 : Int32))), (.ref o)])) _
        rw [show Int32.ofNat c' + (1 : Int32) = Int32.ofNat (c' + 1) from own_addN c' 1]
        exact kt
      obtain ⟨T455, h455, X455, e455, W455, st455⟩ := putF X454 hx hZ hown (host := "") (Or.inl (hw _ (List.mem_of_getElem? (i := 51) rfl))) Via.refl e454 f449 f440 (Or.inl (hw _ (List.mem_of_getElem? (i := 52) rfl))) (hw _ (List.mem_of_getElem? (i := 2) rfl)) (ty := .int) (by decide) rfl rfl (g := (mkF m 73 #[.val (.ref o)] [(.int (Int32.ofNat (c' + 1))), (.ref o)])) rfl rfl (own_hb hby d10_73)
      refine own_Go.of (S' := (T455.setTop (mkF m 76 #[.val (.ref o)] []))) st455 ?_
      have kx456 : own_Kx h0 h455 x := kx438.wr W455 hn4
      have f457 : own_Lt h455 x := f439.wr W455
      have f458 : Exa Z h455 o "com/example/quayside/quayside/Row" := f440.wr W455
      have f459 : own_Ar Z h455 rn .boolean mn (own_I g) := f441.other W455 (Ne.symm hn7)
      have f460 : Fld Z h455 o "com/example/quayside/quayside/Row" "starts" "[I" (.ref rs) := f442.other W455 (Or.inr (slot_ne (Or.inl (hw _ (List.mem_of_getElem? (i := 15) rfl))) (Or.inl (hw _ (List.mem_of_getElem? (i := 52) rfl))) (by decide) (t := (.array .int)) (t' := .int) (by decide) (by decide)))
      have f461 : Fld Z h455 o "com/example/quayside/quayside/Row" "ends" "[I" (.ref re) := f443.other W455 (Or.inr (slot_ne (Or.inl (hw _ (List.mem_of_getElem? (i := 17) rfl))) (Or.inl (hw _ (List.mem_of_getElem? (i := 52) rfl))) (by decide) (t := (.array .int)) (t' := .int) (by decide) (by decide)))
      have f462 : Fld Z h455 o "com/example/quayside/quayside/Row" "size" "I" (.int (Int32.ofNat (k + 1))) := f444.other W455 (Or.inr (slot_ne (Or.inl (hw _ (List.mem_of_getElem? (i := 31) rfl))) (Or.inl (hw _ (List.mem_of_getElem? (i := 52) rfl))) (by decide) (t := .int) (t' := .int) (by decide) (by decide)))
      have f463 : Fld Z h455 o "com/example/quayside/quayside/Row" "reach" "I" (.int (own_maxI r (0 : Int32))) := f445.other W455 (Or.inr (slot_ne (Or.inl (hw _ (List.mem_of_getElem? (i := 33) rfl))) (Or.inl (hw _ (List.mem_of_getElem? (i := 52) rfl))) (by decide) (t := .int) (t' := .int) (by decide) (by decide)))
      have f464 : Fld Z h455 o "com/example/quayside/quayside/Row" "text" "Z" (.int (0 : Int32)) := f446.other W455 (Or.inr (slot_ne (Or.inl (hw _ (List.mem_of_getElem? (i := 39) rfl))) (Or.inl (hw _ (List.mem_of_getElem? (i := 52) rfl))) (by decide) (t := .boolean) (t' := .int) (by decide) (by decide)))
      have f465 : Fld Z h455 o "com/example/quayside/quayside/Row" "bytes" "[B" (.ref bs) := f447.other W455 (Or.inr (slot_ne (Or.inl (hw _ (List.mem_of_getElem? (i := 12) rfl))) (Or.inl (hw _ (List.mem_of_getElem? (i := 52) rfl))) (by decide) (t := (.array .byte)) (t' := .int) (by decide) (by decide)))
      have f466 : Fld Z h455 o "com/example/quayside/quayside/Row" "nulls" "[Z" (.ref b396) := f448.other W455 (Or.inr (slot_ne (Or.inl (hw _ (List.mem_of_getElem? (i := 65) rfl))) (Or.inl (hw _ (List.mem_of_getElem? (i := 52) rfl))) (by decide) (t := (.array .boolean)) (t' := .int) (by decide) (by decide)))
      have f467 : own_Ar Z h455 rs .int cap (own_I (own_set gs k (Int32.ofNat 0))) := f450.other W455 (Ne.symm hn1)
      have f468 : own_Ar Z h455 re .int cap (own_I (own_set ge k (0 : Int32))) := f451.other W455 (Ne.symm hn2)
      have f469 : own_Ar Z h455 b396 .boolean cap (own_I (own_set (own_cpy g mn) k (nar .boolean (1 : Int32)))) := f453.other W455 (Ne.symm ne399)
      have z470 : n0 ≤ h455.size := Nat.le_trans z452 (Keep.of_wr W455).1
      have f471 : Fld Z h455 o "com/example/quayside/quayside/Row" "nullCount" "I" (.int (Int32.ofNat (c' + 1))) := f449.same W455
      have N455 := Fr.snoc X455 N437 hg1
      exact own_retV X455 hx hlk hret (own_hb hby d10_76) e455 ⟨rfl, N455, kx456, ⟨rs, re, bs, (own_set gs k (Int32.ofNat 0)), (own_set ge k (0 : Int32)), (0 : Int32), (own_maxI r (0 : Int32)), f458, f460, f461, f462, f463, f464, f465, f467, f468, hg1, hg2, hg3, hn1, hn2, hn3, hn4, hn5, hn6, (by omega), (by omega), own_s01 hf01 (Or.inr rfl), Or.inr ⟨b396, cap, (c' + 1), (own_set (own_cpy g mn) k (nar .boolean (1 : Int32))), f466, f471, f469, gx397, ne399, ne401, ne402, ne398, (by omega), (by omega), (by omega), own_nC (by omega) hq1 hq2, (fun i _ _ => by omega), (fun q => by omega)⟩⟩⟩ (by decide) (by decide)
    · skip
      refine own_Go.of (S' := (T390.setTop (mkF m 55 #[.val (.ref o)] [(.ref o)]))) (fun t kt => ?_) ?_
      · show Steps p.tables e below (T390.setTop (mkF m 22 #[.val (.ref o)] [(.int (Int32.ofNat (k + 1))), (.int (Int32.ofNat mn))])) _
        refine XS.icmpYes X390.here hx rfl (pc0 := 22) (pc' := 54) rfl (own_hb hby d10_22) rfl (flt (fun q => hc22_391 ((own_ltN (by omega) (by omega)).mp q))).2.1 (by decide) (by decide) ?_
        show Steps p.tables e below (T390.setTop (mkF m 54 #[.val (.ref o)] [])) _
        refine XS.aloadN X390.here hx rfl (own_hb hby d10_54) rfl rfl ?_
        exact kt
      obtain ⟨T472, X472, e472, st472⟩ := getF X390 hx hZ hown (host := "") (Or.inl (hw _ (List.mem_of_getElem? (i := 64) rfl))) Via.refl e390 p381_7 (g := (mkF m 55 #[.val (.ref o)] [(.ref o)])) rfl rfl (own_hb hby d10_55)
      refine own_Go.of (S' := (T472.setTop (mkF m 58 #[.val (.ref o)] [(.ref rn)]))) st472 ?_
      refine own_Go.of (S' := (T472.setTop (mkF m 59 #[.val (.ref o)] [(.ref o), (.ref rn)]))) (fun t kt => ?_) ?_
      · show Steps p.tables e below (T472.setTop (mkF m 58 #[.val (.ref o)] [(.ref rn)])) _
        refine XS.aloadN X472.here hx rfl (own_hb hby d10_58) rfl rfl ?_
        exact kt
      obtain ⟨T473, X473, e473, st473⟩ := getF X472 hx hZ hown (host := "") (Or.inl (hw _ (List.mem_of_getElem? (i := 30) rfl))) Via.refl e472 p381_3 (g := (mkF m 59 #[.val (.ref o)] [(.ref o), (.ref rn)])) rfl rfl (own_hb hby d10_59)
      refine own_Go.of (S' := (T473.setTop (mkF m 62 #[.val (.ref o)] [(.int (Int32.ofNat (k + 1))), (.ref rn)]))) st473 ?_
      refine own_Go.of (S' := (T473.setTop (mkF m 65 #[.val (.ref o)] [(.int (1 : Int32)), (.int (Int32.ofNat k)), (.ref rn)]))) (fun t kt => ?_) ?_
      · show Steps p.tables e below (T473.setTop (mkF m 62 #[.val (.ref o)] [(.int (Int32.ofNat (k + 1))), (.ref rn)])) _
        refine XS.iconst X473.here hx rfl (own_hb hby d10_62) ?_
        show Steps p.tables e below (T473.setTop (mkF m 63 #[.val (.ref o)] [(.int (1 : Int32)), (.int (Int32.ofNat (k + 1))), (.ref rn)])) _
        refine XS.isub X473.here hx rfl (own_hb hby d10_63) rfl ?_
        show Steps p.tables e below (T473.setTop (mkF m 64 #[.val (.ref o)] [(.int ((Int32.ofNat (k + 1)) - (1 : Int32))), (.ref rn)])) _
        rw [show Int32.ofNat (k + 1) - (1 : Int32) = Int32.ofNat k from own_subN (a := k + 1) (b := 1) (by omega)]
        show Steps p.tables e below (T473.setTop (mkF m 64 #[.val (.ref o)] [(.int (Int32.ofNat k)), (.ref rn)])) _
        refine XS.iconst X473.here hx rfl (own_hb hby d10_64) ?_
        exact kt
      obtain ⟨cl474, Ar474, hin474, ub474⟩ := own_Ar.put (j := (Int32.ofNat k)) (k := k) f385 ⟨rfl, by omega⟩
      obtain ⟨T474, h474, X474, e474, W474, st474⟩ := stZ X473 hx hZ e473 Ar474 (j := (Int32.ofNat k)) hin474 (g := (mkF m 65 #[.val (.ref o)] [(.int (1 : Int32)), (.int (Int32.ofNat k)), (.ref rn)])) rfl rfl (own_hb hby d10_65)
      refine own_Go.of (S' := (T474.setTop (mkF m 66 #[.val (.ref o)] []))) st474 ?_
      have kx475 : own_Kx h0 h474 x := kx382.wr W474 hn10
      have f476 : own_Lt h474 x := f383.wr W474
      have f477 : Exa Z h474 o "com/example/quayside/quayside/Row" := p381_0.wr W474
      have f478 : Fld Z h474 o "com/example/quayside/quayside/Row" "starts" "[I" (.ref rs) := p381_1.other W474 (Or.inl hn7)
      have f479 : Fld Z h474 o "com/example/quayside/quayside/Row" "ends" "[I" (.ref re) := p381_2.other W474 (Or.inl hn7)
      have f480 : Fld Z h474 o "com/example/quayside/quayside/Row" "size" "I" (.int (Int32.ofNat (k + 1))) := p381_3.other W474 (Or.inl hn7)
      have f481 : Fld Z h474 o "com/example/quayside/quayside/Row" "reach" "I" (.int (own_maxI r (0 : Int32))) := p381_4.other W474 (Or.inl hn7)
      have f482 : Fld Z h474 o "com/example/quayside/quayside/Row" "text" "Z" (.int (0 : Int32)) := p381_5.other W474 (Or.inl hn7)
      have f483 : Fld Z h474 o "com/example/quayside/quayside/Row" "bytes" "[B" (.ref bs) := p381_6.other W474 (Or.inl hn7)
      have f484 : Fld Z h474 o "com/example/quayside/quayside/Row" "nulls" "[Z" (.ref rn) := p381_7.other W474 (Or.inl hn7)
      have f485 : Fld Z h474 o "com/example/quayside/quayside/Row" "nullCount" "I" (.int (Int32.ofNat c')) := p381_8.other W474 (Or.inl hn7)
      have f486 : own_Ar Z h474 rs .int cap (own_I (own_set gs k (Int32.ofNat 0))) := p381_9.other W474 hn8
      have f487 : own_Ar Z h474 re .int cap (own_I (own_set ge k (0 : Int32))) := p381_10.other W474 hn9
      have z488 : n0 ≤ h474.size := Nat.le_trans z386 (Keep.of_wr W474).1
      have f489 : own_Ar Z h474 rn .boolean mn (own_I (own_set g k (nar .boolean (1 : Int32)))) := by rw [← own_upI]; exact ub474 (fits_nar_bool _) W474
      have N474 := Fr.snoc X474 N381 hg4
      refine own_Go.of (S' := (T474.setTop (mkF m 68 #[.val (.ref o)] [(.ref o), (.ref o)]))) (fun t kt => ?_) ?_
      · show Steps p.tables e below (T474.setTop (mkF m 66 #[.val (.ref o)] [])) _
        refine XS.aloadN X474.here hx rfl (own_hb hby d10_66) rfl rfl ?_
        show Steps p.tables e below (T474.setTop (mkF m 67 #[.val (.ref o)] [(.ref o)])) _
        refine XS.dup X474.here hx rfl (own_hb hby d10_67) rfl rfl ?_
        exact kt
      obtain ⟨T490, X490, e490, st490⟩ := getF X474 hx hZ hown (host := "") (Or.inl (hw _ (List.mem_of_getElem? (i := 51) rfl))) Via.refl e474 f485 (g := (mkF m 68 #[.val (.ref o)] [(.ref o), (.ref o)])) rfl rfl (own_hb hby d10_68)
      refine own_Go.of (S' := (T490.setTop (mkF m 71 #[.val (.ref o)] [(.int (Int32.ofNat c')), (.ref o)]))) st490 ?_
      refine own_Go.of (S' := (T490.setTop (mkF m 73 #[.val (.ref o)] [(.int (Int32.ofNat (c' + 1))), (.ref o)]))) (fun t kt => ?_) ?_
      · show Steps p.tables e below (T490.setTop (mkF m 71 #[.val (.ref o)] [(.int (Int32.ofNat c')), (.ref o)])) _
        refine XS.iconst X490.here hx rfl (own_hb hby d10_71) ?_
        show Steps p.tables e below (T490.setTop (mkF m 72 #[.val (.ref o)] [(.int (1 : Int32)), (.int (Int32.ofNat c')), (.ref o)])) _
        refine XS.iadd X490.here hx rfl (own_hb hby d10_72) rfl ?_
        show Steps p.tables e below (T490.setTop (mkF m 73 #[.val (.ref o)] [(.int ((Int32.ofNat c') + (1 : Int32))), (.ref o)])) _
        rw [show Int32.ofNat c' + (1 : Int32) = Int32.ofNat (c' + 1) from own_addN c' 1]
        exact kt
      obtain ⟨T491, h491, X491, e491, W491, st491⟩ := putF X490 hx hZ hown (host := "") (Or.inl (hw _ (List.mem_of_getElem? (i := 51) rfl))) Via.refl e490 f485 f477 (Or.inl (hw _ (List.mem_of_getElem? (i := 52) rfl))) (hw _ (List.mem_of_getElem? (i := 2) rfl)) (ty := .int) (by decide) rfl rfl (g := (mkF m 73 #[.val (.ref o)] [(.int (Int32.ofNat (c' + 1))), (.ref o)])) rfl rfl (own_hb hby d10_73)
      refine own_Go.of (S' := (T491.setTop (mkF m 76 #[.val (.ref o)] []))) st491 ?_
      have kx492 : own_Kx h0 h491 x := kx475.wr W491 hn4
      have f493 : own_Lt h491 x := f476.wr W491
      have f494 : Exa Z h491 o "com/example/quayside/quayside/Row" := f477.wr W491
      have f495 : own_Ar Z h491 rn .boolean mn (own_I (own_set g k (nar .boolean (1 : Int32)))) := f489.other W491 (Ne.symm hn7)
      have f496 : Fld Z h491 o "com/example/quayside/quayside/Row" "starts" "[I" (.ref rs) := f478.other W491 (Or.inr (slot_ne (Or.inl (hw _ (List.mem_of_getElem? (i := 15) rfl))) (Or.inl (hw _ (List.mem_of_getElem? (i := 52) rfl))) (by decide) (t := (.array .int)) (t' := .int) (by decide) (by decide)))
      have f497 : Fld Z h491 o "com/example/quayside/quayside/Row" "ends" "[I" (.ref re) := f479.other W491 (Or.inr (slot_ne (Or.inl (hw _ (List.mem_of_getElem? (i := 17) rfl))) (Or.inl (hw _ (List.mem_of_getElem? (i := 52) rfl))) (by decide) (t := (.array .int)) (t' := .int) (by decide) (by decide)))
      have f498 : Fld Z h491 o "com/example/quayside/quayside/Row" "size" "I" (.int (Int32.ofNat (k + 1))) := f480.other W491 (Or.inr (slot_ne (Or.inl (hw _ (List.mem_of_getElem? (i := 31) rfl))) (Or.inl (hw _ (List.mem_of_getElem? (i := 52) rfl))) (by decide) (t := .int) (t' := .int) (by decide) (by decide)))
      have f499 : Fld Z h491 o "com/example/quayside/quayside/Row" "reach" "I" (.int (own_maxI r (0 : Int32))) := f481.other W491 (Or.inr (slot_ne (Or.inl (hw _ (List.mem_of_getElem? (i := 33) rfl))) (Or.inl (hw _ (List.mem_of_getElem? (i := 52) rfl))) (by decide) (t := .int) (t' := .int) (by decide) (by decide)))
      have f500 : Fld Z h491 o "com/example/quayside/quayside/Row" "text" "Z" (.int (0 : Int32)) := f482.other W491 (Or.inr (slot_ne (Or.inl (hw _ (List.mem_of_getElem? (i := 39) rfl))) (Or.inl (hw _ (List.mem_of_getElem? (i := 52) rfl))) (by decide) (t := .boolean) (t' := .int) (by decide) (by decide)))
      have f501 : Fld Z h491 o "com/example/quayside/quayside/Row" "bytes" "[B" (.ref bs) := f483.other W491 (Or.inr (slot_ne (Or.inl (hw _ (List.mem_of_getElem? (i := 12) rfl))) (Or.inl (hw _ (List.mem_of_getElem? (i := 52) rfl))) (by decide) (t := (.array .byte)) (t' := .int) (by decide) (by decide)))
      have f502 : Fld Z h491 o "com/example/quayside/quayside/Row" "nulls" "[Z" (.ref rn) := f484.other W491 (Or.inr (slot_ne (Or.inl (hw _ (List.mem_of_getElem? (i := 65) rfl))) (Or.inl (hw _ (List.mem_of_getElem? (i := 52) rfl))) (by decide) (t := (.array .boolean)) (t' := .int) (by decide) (by decide)))
      have f503 : own_Ar Z h491 rs .int cap (own_I (own_set gs k (Int32.ofNat 0))) := f486.other W491 (Ne.symm hn1)
      have f504 : own_Ar Z h491 re .int cap (own_I (own_set ge k (0 : Int32))) := f487.other W491 (Ne.symm hn2)
      have z505 : n0 ≤ h491.size := Nat.le_trans z488 (Keep.of_wr W491).1
      have f506 : Fld Z h491 o "com/example/quayside/quayside/Row" "nullCount" "I" (.int (Int32.ofNat (c' + 1))) := f485.same W491
      have N491 := Fr.snoc X491 N474 hg1
      exact own_retV X491 hx hlk hret (own_hb hby d10_76) e491 ⟨rfl, N491, kx492, ⟨rs, re, bs, (own_set gs k (Int32.ofNat 0)), (own_set ge k (0 : Int32)), (0 : Int32), (own_maxI r (0 : Int32)), f494, f496, f497, f498, f499, f500, f501, f503, f504, hg1, hg2, hg3, hn1, hn2, hn3, hn4, hn5, hn6, (by omega), (by omega), own_s01 hf01 (Or.inr rfl), Or.inr ⟨rn, mn, (c' + 1), (own_set g k (nar .boolean (1 : Int32))), f502, f506, f495, hg4, hn7, hn8, hn9, hn10, (by omega), (by omega), (by omega), own_nB (by omega) hq1, (fun i _ _ => by omega), (fun q => by omega)⟩⟩⟩ (by decide) (by decide)
def Q_rm10g (Z : State) (x : Addr) (o : Addr) (k : Nat) (cap : Nat) (f : Nat → Int32) (h0 : Heap) (n0 : Nat) (v : Option Value) (h : Heap) (L : List Loc) : Prop := ∃ cap' : Nat, v = none ∧ Fr n0 L ∧ own_Kx h0 h x ∧ (own_Row Z h n0 x o (k + 1) cap' (own_set f k 1))
set_option maxRecDepth 65536 in
set_option maxHeartbeats 40000000 in
theorem rm10g (l : Launch) (Z : State) (a0 : Array Value) (hw : ∀ d ∈ tables_1, d.before a0 Z = true) (ws : List Jvm.Cond) (x : Addr) (o : Addr) (k : Nat) (cap : Nat) (f : Nat → Int32) (h0 : Heap) (n0 : Nat) (Z0 : n0 ≤ h0.size) (row : own_Row Z h0 n0 x o k cap f) (hk : k ≤ 6) (pr2 : own_Lt h0 x) :
    own_Met l Z h0 (⟨"com/example/quayside/quayside/Row", "addNull", "()V"⟩ : MethodName) prog_62_method_4_code 1 none ws ({ frames := 3, cells := 4, slots := 24, locals := 47 } : Room) #[(.ref o)] (Q_rm10g Z x o k cap f h0 n0) := by
  refine own_enter (plainFor_of_name pn_10) ?_
  intro p e s m below meth c T0 X0 hx hby hml hret hlk hown hnm hZ e0
  have N0 := Fr.nil n0
  have kx0 : own_Kx h0 h0 x := own_Kx.refl
  rw [show entryFrame m #[(.ref o)] 1 = (mkF m 0 #[.val (.ref o)] []) from by first | (simp [entryFrame, mkF, argsToLocals, Value.category]; done) | rfl]
  obtain ⟨rs, re, bs, gs, ge, tx, r, hE, hF1, hF2, hF3, hF4, hF5, hF6, hA1, hA2, hg1, hg2, hg3, hn1, hn2, hn3, hn4, hn5, hn6, hkc, hcap, hf01, hN⟩ := row
  rcases hN with ⟨hm1, hm2, hf0⟩ | ⟨rn, mn, c', g, hm1, hm2, hA3, hg4, hn7, hn8, hn9, hn10, hmn, hmc, hck, hq1, hq2, hq3⟩
  · skip
    by_cases hkk : k < cap
    · skip
      refine own_Go.of (S' := (T0.setTop (mkF m 3 #[.val (.ref o)] [(.int (0 : Int32)), (.int (0 : Int32)), (.ref o)]))) (fun t kt => ?_) ?_
      · show Steps p.tables e below (T0.setTop (mkF m 0 #[.val (.ref o)] [])) _
        refine XS.aloadN X0.here hx rfl (own_hb hby d10_0) rfl rfl ?_
        show Steps p.tables e below (T0.setTop (mkF m 1 #[.val (.ref o)] [(.ref o)])) _
        refine XS.iconst X0.here hx rfl (own_hb hby d10_1) ?_
        show Steps p.tables e below (T0.setTop (mkF m 2 #[.val (.ref o)] [(.int (0 : Int32)), (.ref o)])) _
        refine XS.iconst X0.here hx rfl (own_hb hby d10_2) ?_
        exact kt
      obtain ⟨cq507, kq507, q507a, q507b, q507c⟩ := isOf hZ e0 hE
      obtain ⟨_, _, ⟨T507, L507, k507, n507⟩, -, X507, ⟨Lc507, hQ507, l507, y507, z507⟩, st507⟩ := X0.virtualBack hx (y := (⟨"com/example/quayside/quayside/Row", "add", "(II)V"⟩ : MethodName)) (z := (⟨"com/example/quayside/quayside/Row", "add", "(II)V"⟩ : MethodName)) hown (mvT hZ (hw _ (List.mem_of_getElem? (i := 63) rfl))) (mvT hZ (hw _ (List.mem_of_getElem? (i := 26) rfl))) (notFace_of_selects (args := #[]) (mvT hZ (hw _ (List.mem_of_getElem? (i := 28) rfl)))) (mvT hZ (hw _ (List.mem_of_getElem? (i := 28) rfl))) (mvT hZ (hw _ (List.mem_of_getElem? (i := 27) rfl))) (by decide) (backOf (W := 0) (rm5s l Z a0 hw [] o 0 (0 : Int32) rs re k cap gs ge r tx bs .null (0 : Int32) h0 n0 Z0 hE hF1 hF2 hF3 hF4 hF5 hF6 hm1 hm2 hA1 hA2 hg1 hg2 hg3 hn1 hn2 hn3 (by decide) (by decide) (by omega) (by omega)) hZ (hw _ (List.mem_of_getElem? (i := 29) rfl)) (hw _ (List.mem_of_getElem? (i := 3) rfl)) (by decide) (by decide)) q507a q507c (g := (mkF m 3 #[.val (.ref o)] [(.int (0 : Int32)), (.int (0 : Int32)), (.ref o)])) rfl (by rw [hml]; rfl) (Steps.refl _) (argsL := [(.int (0 : Int32)), (.int (0 : Int32))]) (rest := []) (lenOf pd_2 rfl) rfl (by show 2 * 0 + _ ≤ _; exact Nat.le_of_eq rfl) (own_hb hby d10_3) (fun _ _ => ⟨rfl, e0, (by decide : 0 + 0 ≤ _), (by decide : 0 + 0 ≤ _)⟩)
      dsimp only [Pt.U, Pt.locs, Pt.cells, Pt.slots] at X507 l507 y507 z507 st507 hQ507
      subst l507 y507 z507
      obtain ⟨rfl, N507q, K507, p507_0, p507_1, p507_2, p507_3, p507_4, p507_5, p507_6, p507_7, p507_8, p507_9, p507_10⟩ := hQ507
      have N507 := Fr.app N0 N507q
      refine own_Go.of (S' := (T507.setTop (mkF m 6 #[.val (.ref o)] []))) (fun t kt => st507.trans kt) ?_
      have kx508 : own_Kx h0 T507.heap x := kx0.keep K507 (ninS hn4 (ninS hn5 (ninS hn6 nin0)))
      have f509 : own_Lt T507.heap x := pr2.keep K507
      have f510 : Exa Z T507.heap o "com/example/quayside/quayside/Row" := hE.keep K507
      have z511 : n0 ≤ T507.heap.size := Nat.le_trans Z0 K507.1
      refine own_Go.of (S' := (T507.setTop (mkF m 7 #[.val (.ref o)] [(.ref o)]))) (fun t kt => ?_) ?_
      · show Steps p.tables e below (T507.setTop (mkF m 6 #[.val (.ref o)] [])) _
        refine XS.aloadN X507.here hx rfl (own_hb hby d10_6) rfl rfl ?_
        exact kt
      obtain ⟨T512, X512, e512, st512⟩ := getF X507 hx hZ hown (host := "") (Or.inl (hw _ (List.mem_of_getElem? (i := 64) rfl))) Via.refl rfl p507_7 (g := (mkF m 7 #[.val (.ref o)] [(.ref o)])) rfl rfl (own_hb hby d10_7)
      refine own_Go.of (S' := (T512.setTop (mkF m 10 #[.val (.ref o)] [.null]))) st512 ?_
      refine own_Go.of (S' := (T512.setTop (mkF m 27 #[.val (.ref o)] [(.ref o), (.ref o)]))) (fun t kt => ?_) ?_
      · show Steps p.tables e below (T512.setTop (mkF m 10 #[.val (.ref o)] [.null])) _
        refine XS.ifnullYes X512.here hx rfl (pc0 := 10) (pc' := 25) rfl (own_hb hby d10_10) rfl (by decide) (by decide) ?_
        show Steps p.tables e below (T512.setTop (mkF m 25 #[.val (.ref o)] [])) _
        refine XS.aloadN X512.here hx rfl (own_hb hby d10_25) rfl rfl ?_
        show Steps p.tables e below (T512.setTop (mkF m 26 #[.val (.ref o)] [(.ref o)])) _
        refine XS.aloadN X512.here hx rfl (own_hb hby d10_26) rfl rfl ?_
        exact kt
      obtain ⟨T513, X513, e513, st513⟩ := getF X512 hx hZ hown (host := "") (Or.inl (hw _ (List.mem_of_getElem? (i := 64) rfl))) Via.refl e512 p507_7 (g := (mkF m 27 #[.val (.ref o)] [(.ref o), (.ref o)])) rfl rfl (own_hb hby d10_27)
      refine own_Go.of (S' := (T513.setTop (mkF m 30 #[.val (.ref o)] [.null, (.ref o)]))) st513 ?_
      refine own_Go.of (S' := (T513.setTop (mkF m 34 #[.val (.ref o)] [(.int (0 : Int32)), (.ref o)]))) (fun t kt => ?_) ?_
      · show Steps p.tables e below (T513.setTop (mkF m 30 #[.val (.ref o)] [.null, (.ref o)])) _
        refine XS.ifnonnullNo X513.here hx rfl (own_hb hby d10_30) rfl ?_
        show Steps p.tables e below (T513.setTop (mkF m 33 #[.val (.ref o)] [(.ref o)])) _
        refine XS.iconst X513.here hx rfl (own_hb hby d10_33) ?_
        exact kt
      obtain ⟨T514, h514, X514, e514, E514, A514, st514⟩ := own_newP X513 hx hZ (hw _ (List.mem_of_getElem? (i := 0) rfl)) e513 (g := (mkF m 34 #[.val (.ref o)] [(.int (0 : Int32)), (.ref o)])) rfl (own_hb hby d10_34) rfl (n := 0) (cap := 0) rfl (by decide) (by decide) (by decide) (by decide)
      obtain ⟨b514, g514⟩ : ∃ z, z = T507.heap.size := ⟨_, rfl⟩
      rw [← g514] at A514 st514
      have gx514 : n0 ≤ b514 := Nat.le_trans z511 (Nat.le_of_eq g514.symm)
      have ne515 : x ≠ b514 := Nat.ne_of_lt (Nat.lt_of_lt_of_le f509.lt (Nat.le_of_eq g514.symm))
      have ne516 : o ≠ b514 := Nat.ne_of_lt (Nat.lt_of_lt_of_le p507_0.lt (Nat.le_of_eq g514.symm))
      have ne517 : rs ≠ b514 := Nat.ne_of_lt (Nat.lt_of_lt_of_le p507_9.lt (Nat.le_of_eq g514.symm))
      have ne518 : re ≠ b514 := Nat.ne_of_lt (Nat.lt_of_lt_of_le p507_10.lt (Nat.le_of_eq g514.symm))
      refine own_Go.of (S' := (T514.setTop (mkF m 36 #[.val (.ref o)] [(.ref b514), (.ref o)]))) st514 ?_
      have kx519 : own_Kx h0 h514 x := kx508.ext E514
      have f520 : own_Lt h514 x := f509.ext E514
      have f521 : Exa Z h514 o "com/example/quayside/quayside/Row" := p507_0.ext E514
      have f522 : Fld Z h514 o "com/example/quayside/quayside/Row" "starts" "[I" (.ref rs) := p507_1.ext E514
      have f523 : Fld Z h514 o "com/example/quayside/quayside/Row" "ends" "[I" (.ref re) := p507_2.ext E514
      have f524 : Fld Z h514 o "com/example/quayside/quayside/Row" "size" "I" (.int (Int32.ofNat (k + 1))) := p507_3.ext E514
      have f525 : Fld Z h514 o "com/example/quayside/quayside/Row" "reach" "I" (.int (own_maxI r (0 : Int32))) := p507_4.ext E514
      have f526 : Fld Z h514 o "com/example/quayside/quayside/Row" "text" "Z" (.int (0 : Int32)) := p507_5.ext E514
      have f527 : Fld Z h514 o "com/example/quayside/quayside/Row" "bytes" "[B" (.ref bs) := p507_6.ext E514
      have f528 : Fld Z h514 o "com/example/quayside/quayside/Row" "nulls" "[Z" .null := p507_7.ext E514
      have f529 : Fld Z h514 o "com/example/quayside/quayside/Row" "nullCount" "I" (.int (0 : Int32)) := p507_8.ext E514
      have f530 : own_Ar Z h514 rs .int cap (own_I (own_set gs k (Int32.ofNat 0))) := p507_9.ext E514
      have f531 : own_Ar Z h514 re .int cap (own_I (own_set ge k (0 : Int32))) := p507_10.ext E514
      have z532 : n0 ≤ h514.size := Nat.le_trans z511 E514.1
      have f533 : own_Ar Z h514 b514 .boolean 0 (own_I (fun _ => (0 : Int32))) := A514
      refine own_Go.of (S' := (T514.setTop (mkF m 44 #[.val (.ref o)] [(.ref o), (.ref b514), (.ref o)]))) (fun t kt => ?_) ?_
      · show Steps p.tables e below (T514.setTop (mkF m 36 #[.val (.ref o)] [(.ref b514), (.ref o)])) _
        refine XS.goto X514.here hx rfl (pc0 := 36) (pc' := 43) rfl (own_hb hby d10_36) (by decide) (by decide) ?_
        show Steps p.tables e below (T514.setTop (mkF m 43 #[.val (.ref o)] [(.ref b514), (.ref o)])) _
        refine XS.aloadN X514.here hx rfl (own_hb hby d10_43) rfl rfl ?_
        exact kt
      obtain ⟨T534, X534, e534, st534⟩ := getF X514 hx hZ hown (host := "") (Or.inl (hw _ (List.mem_of_getElem? (i := 14) rfl))) Via.refl e514 f522 (g := (mkF m 44 #[.val (.ref o)] [(.ref o), (.ref b514), (.ref o)])) rfl rfl (own_hb hby d10_44)
      refine own_Go.of (S' := (T534.setTop (mkF m 47 #[.val (.ref o)] [(.ref rs), (.ref b514), (.ref o)]))) st534 ?_
      obtain ⟨cl535, Ar535, hln535⟩ := own_Ar.len f530
      refine own_Go.of (S' := (T534.setTop (mkF m 48 #[.val (.ref o)] [(.int (Int32.ofNat cap)), (.ref b514), (.ref o)]))) (fun t kt => ?_) ?_
      · show Steps p.tables e below (T534.setTop (mkF m 47 #[.val (.ref o)] [(.ref rs), (.ref b514), (.ref o)])) _
        refine X534.arraylength hx (by rw [e534]; exact Ar535.1) (State.isArrayOf_alike hZ.alike Ar535.2.1) (g := (mkF m 47 #[.val (.ref o)] [(.ref rs), (.ref b514), (.ref o)])) rfl rfl (own_hb hby d10_47) _ ?_
        rw [hln535]
        exact kt
      obtain ⟨_, _, ⟨T536, L536, k536, n536⟩, -, X536, ⟨Lc536, hQ536, l536, y536, z536⟩, st536⟩ := Jvm.LawKit.callS X534 hx (y := (⟨"java/util/Arrays", "copyOf", "([ZI)[Z"⟩ : MethodName)) hown (mvT hZ (hw _ (List.mem_of_getElem? (i := 66) rfl))) (mvT hZ (hw _ (List.mem_of_getElem? (i := 67) rfl))) (mvT hZ (hw _ (List.mem_of_getElem? (i := 68) rfl))) (mvT hZ (hw _ (List.mem_of_getElem? (i := 69) rfl))) (by decide) (backOf (W := 1) (rm11 l Z a0 hw [] b514 cap 0 (fun _ => (0 : Int32)) h514 n0 z532 f533 (by omega) (by omega)) hZ (hw _ (List.mem_of_getElem? (i := 69) rfl)) (hw _ (List.mem_of_getElem? (i := 68) rfl)) (by decide) (by decide)) (g := (mkF m 48 #[.val (.ref o)] [(.int (Int32.ofNat cap)), (.ref b514), (.ref o)])) rfl (by rw [hml]; rfl) (argsL := [(.ref b514), (.int (Int32.ofNat cap))]) (rest := [(.ref o)]) (lenOf pd_3 rfl) rfl (by show 2 * 0 + _ ≤ _; exact Nat.le_of_eq rfl) (own_hb hby d10_48) (fun _ _ => ⟨rfl, e534, (by decide : 1 + 1 ≤ _), (by decide : 0 + 8 ≤ _)⟩)
      dsimp only [Pt.U, Pt.locs, Pt.cells, Pt.slots] at X536 l536 y536 z536 st536 hQ536
      subst l536 y536 z536
      obtain ⟨b536, rfl, N536q, K536, p536_0, p536_1⟩ := hQ536
      have N536 := Fr.app N507 N536q
      refine own_Go.of (S' := (T536.setTop (mkF m 51 #[.val (.ref o)] [(.ref b536), (.ref o)]))) (fun t kt => st536 t kt) ?_
      have gx537 : n0 ≤ b536 := Nat.le_trans z532 p536_0
      have ne538 : x ≠ b536 := Nat.ne_of_lt (Nat.lt_of_lt_of_le f520.lt p536_0)
      have ne539 : o ≠ b536 := Nat.ne_of_lt (Nat.lt_of_lt_of_le f521.lt p536_0)
      have ne540 : rs ≠ b536 := Nat.ne_of_lt (Nat.lt_of_lt_of_le f530.lt p536_0)
      have ne541 : re ≠ b536 := Nat.ne_of_lt (Nat.lt_of_lt_of_le f531.lt p536_0)
      have ne542 : b514 ≠ b536 := Nat.ne_of_lt (Nat.lt_of_lt_of_le f533.lt p536_0)
      have kx543 : own_Kx h0 T536.heap x := kx519.keep K536 nin0
      have f544 : own_Lt T536.heap x := f520.keep K536
      have f545 : Exa Z T536.heap o "com/example/quayside/quayside/Row" := f521.keep K536
      have f546 : Fld Z T536.heap o "com/example/quayside/quayside/Row" "starts" "[I" (.ref rs) := f522.keep K536 nin0
      have f547 : Fld Z T536.heap o "com/example/quayside/quayside/Row" "ends" "[I" (.ref re) := f523.keep K536 nin0
      have f548 : Fld Z T536.heap o "com/example/quayside/quayside/Row" "size" "I" (.int (Int32.ofNat (k + 1))) := f524.keep K536 nin0
      have f549 : Fld Z T536.heap o "com/example/quayside/quayside/Row" "reach" "I" (.int (own_maxI r (0 : Int32))) := f525.keep K536 nin0
      have f550 : Fld Z T536.heap o "com/example/quayside/quayside/Row" "text" "Z" (.int (0 : Int32)) := f526.keep K536 nin0
      have f551 : Fld Z T536.heap o "com/example/quayside/quayside/Row" "bytes" "[B" (.ref bs) := f527.keep K536 nin0
      have f552 : Fld Z T536.heap o "com/example/quayside/quayside/Row" "nulls" "[Z" .null := f528.keep K536 nin0
      have f553 : Fld Z T536.heap o "com/example/quayside/quayside/Row" "nullCount" "I" (.int (0 : Int32)) := f529.keep K536 nin0
      have f554 : own_Ar Z T536.heap rs .int cap (own_I (own_set gs k (Int32.ofNat 0))) := f530.keep K536 nin0
      have f555 : own_Ar Z T536.heap re .int cap (own_I (own_set ge k (0 : Int32))) := f531.keep K536 nin0
      have f556 : own_Ar Z T536.heap b514 .boolean 0 (own_I (fun _ => (0 : Int32))) := f533.keep K536 nin0
      have z557 : n0 ≤ T536.heap.size := Nat.le_trans z532 K536.1
      obtain ⟨T558, h558, X558, e558, W558, st558⟩ := putF X536 hx hZ hown (host := "") (Or.inl (hw _ (List.mem_of_getElem? (i := 64) rfl))) Via.refl rfl f552 f545 (Or.inl (hw _ (List.mem_of_getElem? (i := 65) rfl))) (hw _ (List.mem_of_getElem? (i := 2) rfl)) (ty := (.array .boolean)) (by decide) rfl rfl (g := (mkF m 51 #[.val (.ref o)] [(.ref b536), (.ref o)])) rfl rfl (own_hb hby d10_51)
      refine own_Go.of (S' := (T558.setTop (mkF m 54 #[.val (.ref o)] []))) st558 ?_
      have kx559 : own_Kx h0 h558 x := kx543.wr W558 hn4
      have f560 : own_Lt h558 x := f544.wr W558
      have f561 : Exa Z h558 o "com/example/quayside/quayside/Row" := f545.wr W558
      have f562 : Fld Z h558 o "com/example/quayside/quayside/Row" "starts" "[I" (.ref rs) := f546.other W558 (Or.inr (slot_ne (Or.inl (hw _ (List.mem_of_getElem? (i := 15) rfl))) (Or.inl (hw _ (List.mem_of_getElem? (i := 65) rfl))) (by decide) (t := (.array .int)) (t' := (.array .boolean)) (by decide) (by decide)))
      have f563 : Fld Z h558 o "com/example/quayside/quayside/Row" "ends" "[I" (.ref re) := f547.other W558 (Or.inr (slot_ne (Or.inl (hw _ (List.mem_of_getElem? (i := 17) rfl))) (Or.inl (hw _ (List.mem_of_getElem? (i := 65) rfl))) (by decide) (t := (.array .int)) (t' := (.array .boolean)) (by decide) (by decide)))
      have f564 : Fld Z h558 o "com/example/quayside/quayside/Row" "size" "I" (.int (Int32.ofNat (k + 1))) := f548.other W558 (Or.inr (slot_ne (Or.inl (hw _ (List.mem_of_getElem? (i := 31) rfl))) (Or.inl (hw _ (List.mem_of_getElem? (i := 65) rfl))) (by decide) (t := .int) (t' := (.array .boolean)) (by decide) (by decide)))
      have f565 : Fld Z h558 o "com/example/quayside/quayside/Row" "reach" "I" (.int (own_maxI r (0 : Int32))) := f549.other W558 (Or.inr (slot_ne (Or.inl (hw _ (List.mem_of_getElem? (i := 33) rfl))) (Or.inl (hw _ (List.mem_of_getElem? (i := 65) rfl))) (by decide) (t := .int) (t' := (.array .boolean)) (by decide) (by decide)))
      have f566 : Fld Z h558 o "com/example/quayside/quayside/Row" "text" "Z" (.int (0 : Int32)) := f550.other W558 (Or.inr (slot_ne (Or.inl (hw _ (List.mem_of_getElem? (i := 39) rfl))) (Or.inl (hw _ (List.mem_of_getElem? (i := 65) rfl))) (by decide) (t := .boolean) (t' := (.array .boolean)) (by decide) (by decide)))
      have f567 : Fld Z h558 o "com/example/quayside/quayside/Row" "bytes" "[B" (.ref bs) := f551.other W558 (Or.inr (slot_ne (Or.inl (hw _ (List.mem_of_getElem? (i := 12) rfl))) (Or.inl (hw _ (List.mem_of_getElem? (i := 65) rfl))) (by decide) (t := (.array .byte)) (t' := (.array .boolean)) (by decide) (by decide)))
      have f568 : Fld Z h558 o "com/example/quayside/quayside/Row" "nullCount" "I" (.int (0 : Int32)) := f553.other W558 (Or.inr (slot_ne (Or.inl (hw _ (List.mem_of_getElem? (i := 52) rfl))) (Or.inl (hw _ (List.mem_of_getElem? (i := 65) rfl))) (by decide) (t := .int) (t' := (.array .boolean)) (by decide) (by decide)))
      have f569 : own_Ar Z h558 rs .int cap (own_I (own_set gs k (Int32.ofNat 0))) := f554.other W558 (Ne.symm hn1)
      have f570 : own_Ar Z h558 re .int cap (own_I (own_set ge k (0 : Int32))) := f555.other W558 (Ne.symm hn2)
      have f571 : own_Ar Z h558 b514 .boolean 0 (own_I (fun _ => (0 : Int32))) := f556.other W558 (Ne.symm ne516)
      have f572 : own_Ar Z h558 b536 .boolean cap (own_I (own_cpy (fun _ => (0 : Int32)) 0)) := p536_1.other W558 (Ne.symm ne539)
      have z573 : n0 ≤ h558.size := Nat.le_trans z557 (Keep.of_wr W558).1
      have f574 : Fld Z h558 o "com/example/quayside/quayside/Row" "nulls" "[Z" (.ref b536) := f552.same W558
      have N558 := Fr.snoc X558 N536 hg1
      refine own_Go.of (S' := (T558.setTop (mkF m 55 #[.val (.ref o)] [(.ref o)]))) (fun t kt => ?_) ?_
      · show Steps p.tables e below (T558.setTop (mkF m 54 #[.val (.ref o)] [])) _
        refine XS.aloadN X558.here hx rfl (own_hb hby d10_54) rfl rfl ?_
        exact kt
      obtain ⟨T575, X575, e575, st575⟩ := getF X558 hx hZ hown (host := "") (Or.inl (hw _ (List.mem_of_getElem? (i := 64) rfl))) Via.refl e558 f574 (g := (mkF m 55 #[.val (.ref o)] [(.ref o)])) rfl rfl (own_hb hby d10_55)
      refine own_Go.of (S' := (T575.setTop (mkF m 58 #[.val (.ref o)] [(.ref b536)]))) st575 ?_
      refine own_Go.of (S' := (T575.setTop (mkF m 59 #[.val (.ref o)] [(.ref o), (.ref b536)]))) (fun t kt => ?_) ?_
      · show Steps p.tables e below (T575.setTop (mkF m 58 #[.val (.ref o)] [(.ref b536)])) _
        refine XS.aloadN X575.here hx rfl (own_hb hby d10_58) rfl rfl ?_
        exact kt
      obtain ⟨T576, X576, e576, st576⟩ := getF X575 hx hZ hown (host := "") (Or.inl (hw _ (List.mem_of_getElem? (i := 30) rfl))) Via.refl e575 f564 (g := (mkF m 59 #[.val (.ref o)] [(.ref o), (.ref b536)])) rfl rfl (own_hb hby d10_59)
      refine own_Go.of (S' := (T576.setTop (mkF m 62 #[.val (.ref o)] [(.int (Int32.ofNat (k + 1))), (.ref b536)]))) st576 ?_
      refine own_Go.of (S' := (T576.setTop (mkF m 65 #[.val (.ref o)] [(.int (1 : Int32)), (.int (Int32.ofNat k)), (.ref b536)]))) (fun t kt => ?_) ?_
      · show Steps p.tables e below (T576.setTop (mkF m 62 #[.val (.ref o)] [(.int (Int32.ofNat (k + 1))), (.ref b536)])) _
        refine XS.iconst X576.here hx rfl (own_hb hby d10_62) ?_
        show Steps p.tables e below (T576.setTop (mkF m 63 #[.val (.ref o)] [(.int (1 : Int32)), (.int (Int32.ofNat (k + 1))), (.ref b536)])) _
        refine XS.isub X576.here hx rfl (own_hb hby d10_63) rfl ?_
        show Steps p.tables e below (T576.setTop (mkF m 64 #[.val (.ref o)] [(.int ((Int32.ofNat (k + 1)) - (1 : Int32))), (.ref b536)])) _
        rw [show Int32.ofNat (k + 1) - (1 : Int32) = Int32.ofNat k from own_subN (a := k + 1) (b := 1) (by omega)]
        show Steps p.tables e below (T576.setTop (mkF m 64 #[.val (.ref o)] [(.int (Int32.ofNat k)), (.ref b536)])) _
        refine XS.iconst X576.here hx rfl (own_hb hby d10_64) ?_
        exact kt
      obtain ⟨cl577, Ar577, hin577, ub577⟩ := own_Ar.put (j := (Int32.ofNat k)) (k := k) f572 ⟨rfl, by omega⟩
      obtain ⟨T577, h577, X577, e577, W577, st577⟩ := stZ X576 hx hZ e576 Ar577 (j := (Int32.ofNat k)) hin577 (g := (mkF m 65 #[.val (.ref o)] [(.int (1 : Int32)), (.int (Int32.ofNat k)), (.ref b536)])) rfl rfl (own_hb hby d10_65)
      refine own_Go.of (S' := (T577.setTop (mkF m 66 #[.val (.ref o)] []))) st577 ?_
      have kx578 : own_Kx h0 h577 x := kx559.wr W577 ne538
      have f579 : own_Lt h577 x := f560.wr W577
      have f580 : Exa Z h577 o "com/example/quayside/quayside/Row" := f561.wr W577
      have f581 : Fld Z h577 o "com/example/quayside/quayside/Row" "starts" "[I" (.ref rs) := f562.other W577 (Or.inl ne539)
      have f582 : Fld Z h577 o "com/example/quayside/quayside/Row" "ends" "[I" (.ref re) := f563.other W577 (Or.inl ne539)
      have f583 : Fld Z h577 o "com/example/quayside/quayside/Row" "size" "I" (.int (Int32.ofNat (k + 1))) := f564.other W577 (Or.inl ne539)
      have f584 : Fld Z h577 o "com/example/quayside/quayside/Row" "reach" "I" (.int (own_maxI r (0 : Int32))) := f565.other W577 (Or.inl ne539)
      have f585 : Fld Z h577 o "com/example/quayside/quayside/Row" "text" "Z" (.int (0 : Int32)) := f566.other W577 (Or.inl ne539)
      have f586 : Fld Z h577 o "com/example/quayside/quayside/Row" "bytes" "[B" (.ref bs) := f567.other W577 (Or.inl ne539)
      have f587 : Fld Z h577 o "com/example/quayside/quayside/Row" "nulls" "[Z" (.ref b536) := f574.other W577 (Or.inl ne539)
      have f588 : Fld Z h577 o "com/example/quayside/quayside/Row" "nullCount" "I" (.int (0 : Int32)) := f568.other W577 (Or.inl ne539)
      have f589 : own_Ar Z h577 rs .int cap (own_I (own_set gs k (Int32.ofNat 0))) := f569.other W577 ne540
      have f590 : own_Ar Z h577 re .int cap (own_I (own_set ge k (0 : Int32))) := f570.other W577 ne541
      have f591 : own_Ar Z h577 b514 .boolean 0 (own_I (fun _ => (0 : Int32))) := f571.other W577 ne542
      have z592 : n0 ≤ h577.size := Nat.le_trans z573 (Keep.of_wr W577).1
      have f593 : own_Ar Z h577 b536 .boolean cap (own_I (own_set (own_cpy (fun _ => (0 : Int32)) 0) k (nar .boolean (1 : Int32)))) := by rw [← own_upI]; exact ub577 (fits_nar_bool _) W577
      have N577 := Fr.snoc X577 N558 gx537
      refine own_Go.of (S' := (T577.setTop (mkF m 68 #[.val (.ref o)] [(.ref o), (.ref o)]))) (fun t kt => ?_) ?_
      · show Steps p.tables e below (T577.setTop (mkF m 66 #[.val (.ref o)] [])) _
        refine XS.aloadN X577.here hx rfl (own_hb hby d10_66) rfl rfl ?_
        show Steps p.tables e below (T577.setTop (mkF m 67 #[.val (.ref o)] [(.ref o)])) _
        refine XS.dup X577.here hx rfl (own_hb hby d10_67) rfl rfl ?_
        exact kt
      obtain ⟨T594, X594, e594, st594⟩ := getF X577 hx hZ hown (host := "") (Or.inl (hw _ (List.mem_of_getElem? (i := 51) rfl))) Via.refl e577 f588 (g := (mkF m 68 #[.val (.ref o)] [(.ref o), (.ref o)])) rfl rfl (own_hb hby d10_68)
      refine own_Go.of (S' := (T594.setTop (mkF m 71 #[.val (.ref o)] [(.int (0 : Int32)), (.ref o)]))) st594 ?_
      refine own_Go.of (S' := (T594.setTop (mkF m 73 #[.val (.ref o)] [(.int (Int32.ofNat 1)), (.ref o)]))) (fun t kt => ?_) ?_
      · show Steps p.tables e below (T594.setTop (mkF m 71 #[.val (.ref o)] [(.int (0 : Int32)), (.ref o)])) _
        refine XS.iconst X594.here hx rfl (own_hb hby d10_71) ?_
        show Steps p.tables e below (T594.setTop (mkF m 72 #[.val (.ref o)] [(.int (1 : Int32)), (.int (0 : Int32)), (.ref o)])) _
        refine XS.iadd X594.here hx rfl (own_hb hby d10_72) rfl ?_
        show Steps p.tables e below (T594.setTop (mkF m 73 #[.val (.ref o)] [(.int ((0 : Int32) + (1 : Int32))), (.ref o)])) _
        rw [show (0 : Int32) + (1 : Int32) = Int32.ofNat 1 from rfl]
        exact kt
      obtain ⟨T595, h595, X595, e595, W595, st595⟩ := putF X594 hx hZ hown (host := "") (Or.inl (hw _ (List.mem_of_getElem? (i := 51) rfl))) Via.refl e594 f588 f580 (Or.inl (hw _ (List.mem_of_getElem? (i := 52) rfl))) (hw _ (List.mem_of_getElem? (i := 2) rfl)) (ty := .int) (by decide) rfl rfl (g := (mkF m 73 #[.val (.ref o)] [(.int (Int32.ofNat 1)), (.ref o)])) rfl rfl (own_hb hby d10_73)
      refine own_Go.of (S' := (T595.setTop (mkF m 76 #[.val (.ref o)] []))) st595 ?_
      have kx596 : own_Kx h0 h595 x := kx578.wr W595 hn4
      have f597 : own_Lt h595 x := f579.wr W595
      have f598 : Exa Z h595 o "com/example/quayside/quayside/Row" := f580.wr W595
      have f599 : Fld Z h595 o "com/example/quayside/quayside/Row" "starts" "[I" (.ref rs) := f581.other W595 (Or.inr (slot_ne (Or.inl (hw _ (List.mem_of_getElem? (i := 15) rfl))) (Or.inl (hw _ (List.mem_of_getElem? (i := 52) rfl))) (by decide) (t := (.array .int)) (t' := .int) (by decide) (by decide)))
      have f600 : Fld Z h595 o "com/example/quayside/quayside/Row" "ends" "[I" (.ref re) := f582.other W595 (Or.inr (slot_ne (Or.inl (hw _ (List.mem_of_getElem? (i := 17) rfl))) (Or.inl (hw _ (List.mem_of_getElem? (i := 52) rfl))) (by decide) (t := (.array .int)) (t' := .int) (by decide) (by decide)))
      have f601 : Fld Z h595 o "com/example/quayside/quayside/Row" "size" "I" (.int (Int32.ofNat (k + 1))) := f583.other W595 (Or.inr (slot_ne (Or.inl (hw _ (List.mem_of_getElem? (i := 31) rfl))) (Or.inl (hw _ (List.mem_of_getElem? (i := 52) rfl))) (by decide) (t := .int) (t' := .int) (by decide) (by decide)))
      have f602 : Fld Z h595 o "com/example/quayside/quayside/Row" "reach" "I" (.int (own_maxI r (0 : Int32))) := f584.other W595 (Or.inr (slot_ne (Or.inl (hw _ (List.mem_of_getElem? (i := 33) rfl))) (Or.inl (hw _ (List.mem_of_getElem? (i := 52) rfl))) (by decide) (t := .int) (t' := .int) (by decide) (by decide)))
      have f603 : Fld Z h595 o "com/example/quayside/quayside/Row" "text" "Z" (.int (0 : Int32)) := f585.other W595 (Or.inr (slot_ne (Or.inl (hw _ (List.mem_of_getElem? (i := 39) rfl))) (Or.inl (hw _ (List.mem_of_getElem? (i := 52) rfl))) (by decide) (t := .boolean) (t' := .int) (by decide) (by decide)))
      have f604 : Fld Z h595 o "com/example/quayside/quayside/Row" "bytes" "[B" (.ref bs) := f586.other W595 (Or.inr (slot_ne (Or.inl (hw _ (List.mem_of_getElem? (i := 12) rfl))) (Or.inl (hw _ (List.mem_of_getElem? (i := 52) rfl))) (by decide) (t := (.array .byte)) (t' := .int) (by decide) (by decide)))
      have f605 : Fld Z h595 o "com/example/quayside/quayside/Row" "nulls" "[Z" (.ref b536) := f587.other W595 (Or.inr (slot_ne (Or.inl (hw _ (List.mem_of_getElem? (i := 65) rfl))) (Or.inl (hw _ (List.mem_of_getElem? (i := 52) rfl))) (by decide) (t := (.array .boolean)) (t' := .int) (by decide) (by decide)))
      have f606 : own_Ar Z h595 rs .int cap (own_I (own_set gs k (Int32.ofNat 0))) := f589.other W595 (Ne.symm hn1)
      have f607 : own_Ar Z h595 re .int cap (own_I (own_set ge k (0 : Int32))) := f590.other W595 (Ne.symm hn2)
      have f608 : own_Ar Z h595 b514 .boolean 0 (own_I (fun _ => (0 : Int32))) := f591.other W595 (Ne.symm ne516)
      have f609 : own_Ar Z h595 b536 .boolean cap (own_I (own_set (own_cpy (fun _ => (0 : Int32)) 0) k (nar .boolean (1 : Int32)))) := f593.other W595 (Ne.symm ne539)
      have z610 : n0 ≤ h595.size := Nat.le_trans z592 (Keep.of_wr W595).1
      have f611 : Fld Z h595 o "com/example/quayside/quayside/Row" "nullCount" "I" (.int (Int32.ofNat 1)) := f588.same W595
      have N595 := Fr.snoc X595 N577 hg1
      exact own_retV X595 hx hlk hret (own_hb hby d10_76) e595 ⟨cap, rfl, N595, kx596, ⟨rs, re, bs, (own_set gs k (Int32.ofNat 0)), (own_set ge k (0 : Int32)), (0 : Int32), (own_maxI r (0 : Int32)), f598, f599, f600, f601, f602, f603, f604, f606, f607, hg1, hg2, hg3, hn1, hn2, hn3, hn4, hn5, hn6, (by omega), (by omega), own_s01 hf01 (Or.inr rfl), Or.inr ⟨b536, cap, 1, (own_set (own_cpy (fun _ => (0 : Int32)) 0) k (nar .boolean (1 : Int32))), f605, f611, f609, gx537, ne539, ne540, ne541, ne538, (by omega), (by omega), (by omega), own_nA hf0, (fun i _ _ => by omega), (fun q => by omega)⟩⟩⟩ (by decide) (by decide)
    · skip
      refine own_Go.of (S' := (T0.setTop (mkF m 3 #[.val (.ref o)] [(.int (0 : Int32)), (.int (0 : Int32)), (.ref o)]))) (fun t kt => ?_) ?_
      · show Steps p.tables e below (T0.setTop (mkF m 0 #[.val (.ref o)] [])) _
        refine XS.aloadN X0.here hx rfl (own_hb hby d10_0) rfl rfl ?_
        show Steps p.tables e below (T0.setTop (mkF m 1 #[.val (.ref o)] [(.ref o)])) _
        refine XS.iconst X0.here hx rfl (own_hb hby d10_1) ?_
        show Steps p.tables e below (T0.setTop (mkF m 2 #[.val (.ref o)] [(.int (0 : Int32)), (.ref o)])) _
        refine XS.iconst X0.here hx rfl (own_hb hby d10_2) ?_
        exact kt
      obtain ⟨cq612, kq612, q612a, q612b, q612c⟩ := isOf hZ e0 hE
      obtain ⟨_, _, ⟨T612, L612, k612, n612⟩, -, X612, ⟨Lc612, hQ612, l612, y612, z612⟩, st612⟩ := X0.virtualBack hx (y := (⟨"com/example/quayside/quayside/Row", "add", "(II)V"⟩ : MethodName)) (z := (⟨"com/example/quayside/quayside/Row", "add", "(II)V"⟩ : MethodName)) hown (mvT hZ (hw _ (List.mem_of_getElem? (i := 63) rfl))) (mvT hZ (hw _ (List.mem_of_getElem? (i := 26) rfl))) (notFace_of_selects (args := #[]) (mvT hZ (hw _ (List.mem_of_getElem? (i := 28) rfl)))) (mvT hZ (hw _ (List.mem_of_getElem? (i := 28) rfl))) (mvT hZ (hw _ (List.mem_of_getElem? (i := 27) rfl))) (by decide) (backOf (W := 0) (rm5g l Z a0 hw [] o 0 (0 : Int32) rs re k cap gs ge r tx bs .null (0 : Int32) h0 n0 Z0 hE hF1 hF2 hF3 hF4 hF5 hF6 hm1 hm2 hA1 hA2 hg1 hg2 hg3 hn1 hn2 hn3 (by decide) (by decide) (by omega) (by omega)) hZ (hw _ (List.mem_of_getElem? (i := 29) rfl)) (hw _ (List.mem_of_getElem? (i := 3) rfl)) (by decide) (by decide)) q612a q612c (g := (mkF m 3 #[.val (.ref o)] [(.int (0 : Int32)), (.int (0 : Int32)), (.ref o)])) rfl (by rw [hml]; rfl) (Steps.refl _) (argsL := [(.int (0 : Int32)), (.int (0 : Int32))]) (rest := []) (lenOf pd_2 rfl) rfl (by show 2 * 0 + _ ≤ _; exact Nat.le_of_eq rfl) (own_hb hby d10_3) (fun _ _ => ⟨rfl, e0, (by decide : 0 + 2 ≤ _), (by decide : 0 + 16 ≤ _)⟩)
      dsimp only [Pt.U, Pt.locs, Pt.cells, Pt.slots] at X612 l612 y612 z612 st612 hQ612
      subst l612 y612 z612
      obtain ⟨rs'612, re'612, rfl, N612q, K612, p612_0, p612_1, p612_2, p612_3, p612_4, p612_5, p612_6, p612_7, p612_8, p612_9, p612_10, p612_11, p612_12, p612_13⟩ := hQ612
      have N612 := Fr.app N0 N612q
      refine own_Go.of (S' := (T612.setTop (mkF m 6 #[.val (.ref o)] []))) (fun t kt => st612.trans kt) ?_
      have gx613 : n0 ≤ rs'612 := Nat.le_trans Z0 p612_0
      have ne614 : x ≠ rs'612 := Nat.ne_of_lt (Nat.lt_of_lt_of_le pr2.lt p612_0)
      have ne615 : o ≠ rs'612 := Nat.ne_of_lt (Nat.lt_of_lt_of_le hE.lt p612_0)
      have ne616 : rs ≠ rs'612 := Nat.ne_of_lt (Nat.lt_of_lt_of_le hA1.lt p612_0)
      have ne617 : re ≠ rs'612 := Nat.ne_of_lt (Nat.lt_of_lt_of_le hA2.lt p612_0)
      have gx618 : n0 ≤ re'612 := Nat.le_trans Z0 p612_1
      have ne619 : x ≠ re'612 := Nat.ne_of_lt (Nat.lt_of_lt_of_le pr2.lt p612_1)
      have ne620 : o ≠ re'612 := Nat.ne_of_lt (Nat.lt_of_lt_of_le hE.lt p612_1)
      have ne621 : rs ≠ re'612 := Nat.ne_of_lt (Nat.lt_of_lt_of_le hA1.lt p612_1)
      have ne622 : re ≠ re'612 := Nat.ne_of_lt (Nat.lt_of_lt_of_le hA2.lt p612_1)
      have kx623 : own_Kx h0 T612.heap x := kx0.keep K612 (ninS hn4 nin0)
      have f624 : own_Lt T612.heap x := pr2.keep K612
      have f625 : Exa Z T612.heap o "com/example/quayside/quayside/Row" := hE.keep K612
      have f626 : own_Ar Z T612.heap rs .int cap (own_I gs) := hA1.keep K612 (ninS (Ne.symm hn1) nin0)
      have f627 : own_Ar Z T612.heap re .int cap (own_I ge) := hA2.keep K612 (ninS (Ne.symm hn2) nin0)
      have z628 : n0 ≤ T612.heap.size := Nat.le_trans Z0 K612.1
      refine own_Go.of (S' := (T612.setTop (mkF m 7 #[.val (.ref o)] [(.ref o)]))) (fun t kt => ?_) ?_
      · show Steps p.tables e below (T612.setTop (mkF m 6 #[.val (.ref o)] [])) _
        refine XS.aloadN X612.here hx rfl (own_hb hby d10_6) rfl rfl ?_
        exact kt
      obtain ⟨T629, X629, e629, st629⟩ := getF X612 hx hZ hown (host := "") (Or.inl (hw _ (List.mem_of_getElem? (i := 64) rfl))) Via.refl rfl p612_10 (g := (mkF m 7 #[.val (.ref o)] [(.ref o)])) rfl rfl (own_hb hby d10_7)
      refine own_Go.of (S' := (T629.setTop (mkF m 10 #[.val (.ref o)] [.null]))) st629 ?_
      refine own_Go.of (S' := (T629.setTop (mkF m 27 #[.val (.ref o)] [(.ref o), (.ref o)]))) (fun t kt => ?_) ?_
      · show Steps p.tables e below (T629.setTop (mkF m 10 #[.val (.ref o)] [.null])) _
        refine XS.ifnullYes X629.here hx rfl (pc0 := 10) (pc' := 25) rfl (own_hb hby d10_10) rfl (by decide) (by decide) ?_
        show Steps p.tables e below (T629.setTop (mkF m 25 #[.val (.ref o)] [])) _
        refine XS.aloadN X629.here hx rfl (own_hb hby d10_25) rfl rfl ?_
        show Steps p.tables e below (T629.setTop (mkF m 26 #[.val (.ref o)] [(.ref o)])) _
        refine XS.aloadN X629.here hx rfl (own_hb hby d10_26) rfl rfl ?_
        exact kt
      obtain ⟨T630, X630, e630, st630⟩ := getF X629 hx hZ hown (host := "") (Or.inl (hw _ (List.mem_of_getElem? (i := 64) rfl))) Via.refl e629 p612_10 (g := (mkF m 27 #[.val (.ref o)] [(.ref o), (.ref o)])) rfl rfl (own_hb hby d10_27)
      refine own_Go.of (S' := (T630.setTop (mkF m 30 #[.val (.ref o)] [.null, (.ref o)]))) st630 ?_
      refine own_Go.of (S' := (T630.setTop (mkF m 34 #[.val (.ref o)] [(.int (0 : Int32)), (.ref o)]))) (fun t kt => ?_) ?_
      · show Steps p.tables e below (T630.setTop (mkF m 30 #[.val (.ref o)] [.null, (.ref o)])) _
        refine XS.ifnonnullNo X630.here hx rfl (own_hb hby d10_30) rfl ?_
        show Steps p.tables e below (T630.setTop (mkF m 33 #[.val (.ref o)] [(.ref o)])) _
        refine XS.iconst X630.here hx rfl (own_hb hby d10_33) ?_
        exact kt
      obtain ⟨T631, h631, X631, e631, E631, A631, st631⟩ := own_newP X630 hx hZ (hw _ (List.mem_of_getElem? (i := 0) rfl)) e630 (g := (mkF m 34 #[.val (.ref o)] [(.int (0 : Int32)), (.ref o)])) rfl (own_hb hby d10_34) rfl (n := 0) (cap := 0) rfl (by decide) (by decide) (by decide) (by decide)
      obtain ⟨b631, g631⟩ : ∃ z, z = T612.heap.size := ⟨_, rfl⟩
      rw [← g631] at A631 st631
      have gx631 : n0 ≤ b631 := Nat.le_trans z628 (Nat.le_of_eq g631.symm)
      have ne632 : x ≠ b631 := Nat.ne_of_lt (Nat.lt_of_lt_of_le f624.lt (Nat.le_of_eq g631.symm))
      have ne633 : o ≠ b631 := Nat.ne_of_lt (Nat.lt_of_lt_of_le p612_3.lt (Nat.le_of_eq g631.symm))
      have ne634 : rs ≠ b631 := Nat.ne_of_lt (Nat.lt_of_lt_of_le f626.lt (Nat.le_of_eq g631.symm))
      have ne635 : re ≠ b631 := Nat.ne_of_lt (Nat.lt_of_lt_of_le f627.lt (Nat.le_of_eq g631.symm))
      have ne636 : rs'612 ≠ b631 := Nat.ne_of_lt (Nat.lt_of_lt_of_le p612_12.lt (Nat.le_of_eq g631.symm))
      have ne637 : re'612 ≠ b631 := Nat.ne_of_lt (Nat.lt_of_lt_of_le p612_13.lt (Nat.le_of_eq g631.symm))
      refine own_Go.of (S' := (T631.setTop (mkF m 36 #[.val (.ref o)] [(.ref b631), (.ref o)]))) st631 ?_
      have kx638 : own_Kx h0 h631 x := kx623.ext E631
      have f639 : own_Lt h631 x := f624.ext E631
      have f640 : Exa Z h631 o "com/example/quayside/quayside/Row" := p612_3.ext E631
      have f641 : own_Ar Z h631 rs .int cap (own_I gs) := f626.ext E631
      have f642 : own_Ar Z h631 re .int cap (own_I ge) := f627.ext E631
      have f643 : Fld Z h631 o "com/example/quayside/quayside/Row" "starts" "[I" (.ref rs'612) := p612_4.ext E631
      have f644 : Fld Z h631 o "com/example/quayside/quayside/Row" "ends" "[I" (.ref re'612) := p612_5.ext E631
      have f645 : Fld Z h631 o "com/example/quayside/quayside/Row" "size" "I" (.int (Int32.ofNat (k + 1))) := p612_6.ext E631
      have f646 : Fld Z h631 o "com/example/quayside/quayside/Row" "reach" "I" (.int (own_maxI r (0 : Int32))) := p612_7.ext E631
      have f647 : Fld Z h631 o "com/example/quayside/quayside/Row" "text" "Z" (.int (0 : Int32)) := p612_8.ext E631
      have f648 : Fld Z h631 o "com/example/quayside/quayside/Row" "bytes" "[B" (.ref bs) := p612_9.ext E631
      have f649 : Fld Z h631 o "com/example/quayside/quayside/Row" "nulls" "[Z" .null := p612_10.ext E631
      have f650 : Fld Z h631 o "com/example/quayside/quayside/Row" "nullCount" "I" (.int (0 : Int32)) := p612_11.ext E631
      have f651 : own_Ar Z h631 rs'612 .int (2 * k) (own_I (own_set (own_cpy gs cap) k (Int32.ofNat 0))) := p612_12.ext E631
      have f652 : own_Ar Z h631 re'612 .int (2 * k) (own_I (own_set (own_cpy ge cap) k (0 : Int32))) := p612_13.ext E631
      have z653 : n0 ≤ h631.size := Nat.le_trans z628 E631.1
      have f654 : own_Ar Z h631 b631 .boolean 0 (own_I (fun _ => (0 : Int32))) := A631
      refine own_Go.of (S' := (T631.setTop (mkF m 44 #[.val (.ref o)] [(.ref o), (.ref b631), (.ref o)]))) (fun t kt => ?_) ?_
      · show Steps p.tables e below (T631.setTop (mkF m 36 #[.val (.ref o)] [(.ref b631), (.ref o)])) _
        refine XS.goto X631.here hx rfl (pc0 := 36) (pc' := 43) rfl (own_hb hby d10_36) (by decide) (by decide) ?_
        show Steps p.tables e below (T631.setTop (mkF m 43 #[.val (.ref o)] [(.ref b631), (.ref o)])) _
        refine XS.aloadN X631.here hx rfl (own_hb hby d10_43) rfl rfl ?_
        exact kt
      obtain ⟨T655, X655, e655, st655⟩ := getF X631 hx hZ hown (host := "") (Or.inl (hw _ (List.mem_of_getElem? (i := 14) rfl))) Via.refl e631 f643 (g := (mkF m 44 #[.val (.ref o)] [(.ref o), (.ref b631), (.ref o)])) rfl rfl (own_hb hby d10_44)
      refine own_Go.of (S' := (T655.setTop (mkF m 47 #[.val (.ref o)] [(.ref rs'612), (.ref b631), (.ref o)]))) st655 ?_
      obtain ⟨cl656, Ar656, hln656⟩ := own_Ar.len f651
      refine own_Go.of (S' := (T655.setTop (mkF m 48 #[.val (.ref o)] [(.int (Int32.ofNat (2 * k))), (.ref b631), (.ref o)]))) (fun t kt => ?_) ?_
      · show Steps p.tables e below (T655.setTop (mkF m 47 #[.val (.ref o)] [(.ref rs'612), (.ref b631), (.ref o)])) _
        refine X655.arraylength hx (by rw [e655]; exact Ar656.1) (State.isArrayOf_alike hZ.alike Ar656.2.1) (g := (mkF m 47 #[.val (.ref o)] [(.ref rs'612), (.ref b631), (.ref o)])) rfl rfl (own_hb hby d10_47) _ ?_
        rw [hln656]
        exact kt
      obtain ⟨_, _, ⟨T657, L657, k657, n657⟩, -, X657, ⟨Lc657, hQ657, l657, y657, z657⟩, st657⟩ := Jvm.LawKit.callS X655 hx (y := (⟨"java/util/Arrays", "copyOf", "([ZI)[Z"⟩ : MethodName)) hown (mvT hZ (hw _ (List.mem_of_getElem? (i := 66) rfl))) (mvT hZ (hw _ (List.mem_of_getElem? (i := 67) rfl))) (mvT hZ (hw _ (List.mem_of_getElem? (i := 68) rfl))) (mvT hZ (hw _ (List.mem_of_getElem? (i := 69) rfl))) (by decide) (backOf (W := 1) (rm11 l Z a0 hw [] b631 (2 * k) 0 (fun _ => (0 : Int32)) h631 n0 z653 f654 (by omega) (by omega)) hZ (hw _ (List.mem_of_getElem? (i := 69) rfl)) (hw _ (List.mem_of_getElem? (i := 68) rfl)) (by decide) (by decide)) (g := (mkF m 48 #[.val (.ref o)] [(.int (Int32.ofNat (2 * k))), (.ref b631), (.ref o)])) rfl (by rw [hml]; rfl) (argsL := [(.ref b631), (.int (Int32.ofNat (2 * k)))]) (rest := [(.ref o)]) (lenOf pd_3 rfl) rfl (by show 2 * 0 + _ ≤ _; exact Nat.le_of_eq rfl) (own_hb hby d10_48) (fun _ _ => ⟨rfl, e655, (by decide : 3 + 1 ≤ _), (by decide : 16 + 8 ≤ _)⟩)
      dsimp only [Pt.U, Pt.locs, Pt.cells, Pt.slots] at X657 l657 y657 z657 st657 hQ657
      subst l657 y657 z657
      obtain ⟨b657, rfl, N657q, K657, p657_0, p657_1⟩ := hQ657
      have N657 := Fr.app N612 N657q
      refine own_Go.of (S' := (T657.setTop (mkF m 51 #[.val (.ref o)] [(.ref b657), (.ref o)]))) (fun t kt => st657 t kt) ?_
      have gx658 : n0 ≤ b657 := Nat.le_trans z653 p657_0
      have ne659 : x ≠ b657 := Nat.ne_of_lt (Nat.lt_of_lt_of_le f639.lt p657_0)
      have ne660 : o ≠ b657 := Nat.ne_of_lt (Nat.lt_of_lt_of_le f640.lt p657_0)
      have ne661 : rs ≠ b657 := Nat.ne_of_lt (Nat.lt_of_lt_of_le f641.lt p657_0)
      have ne662 : re ≠ b657 := Nat.ne_of_lt (Nat.lt_of_lt_of_le f642.lt p657_0)
      have ne663 : rs'612 ≠ b657 := Nat.ne_of_lt (Nat.lt_of_lt_of_le f651.lt p657_0)
      have ne664 : re'612 ≠ b657 := Nat.ne_of_lt (Nat.lt_of_lt_of_le f652.lt p657_0)
      have ne665 : b631 ≠ b657 := Nat.ne_of_lt (Nat.lt_of_lt_of_le f654.lt p657_0)
      have kx666 : own_Kx h0 T657.heap x := kx638.keep K657 nin0
      have f667 : own_Lt T657.heap x := f639.keep K657
      have f668 : Exa Z T657.heap o "com/example/quayside/quayside/Row" := f640.keep K657
      have f669 : own_Ar Z T657.heap rs .int cap (own_I gs) := f641.keep K657 nin0
      have f670 : own_Ar Z T657.heap re .int cap (own_I ge) := f642.keep K657 nin0
      have f671 : Fld Z T657.heap o "com/example/quayside/quayside/Row" "starts" "[I" (.ref rs'612) := f643.keep K657 nin0
      have f672 : Fld Z T657.heap o "com/example/quayside/quayside/Row" "ends" "[I" (.ref re'612) := f644.keep K657 nin0
      have f673 : Fld Z T657.heap o "com/example/quayside/quayside/Row" "size" "I" (.int (Int32.ofNat (k + 1))) := f645.keep K657 nin0
      have f674 : Fld Z T657.heap o "com/example/quayside/quayside/Row" "reach" "I" (.int (own_maxI r (0 : Int32))) := f646.keep K657 nin0
      have f675 : Fld Z T657.heap o "com/example/quayside/quayside/Row" "text" "Z" (.int (0 : Int32)) := f647.keep K657 nin0
      have f676 : Fld Z T657.heap o "com/example/quayside/quayside/Row" "bytes" "[B" (.ref bs) := f648.keep K657 nin0
      have f677 : Fld Z T657.heap o "com/example/quayside/quayside/Row" "nulls" "[Z" .null := f649.keep K657 nin0
      have f678 : Fld Z T657.heap o "com/example/quayside/quayside/Row" "nullCount" "I" (.int (0 : Int32)) := f650.keep K657 nin0
      have f679 : own_Ar Z T657.heap rs'612 .int (2 * k) (own_I (own_set (own_cpy gs cap) k (Int32.ofNat 0))) := f651.keep K657 nin0
      have f680 : own_Ar Z T657.heap re'612 .int (2 * k) (own_I (own_set (own_cpy ge cap) k (0 : Int32))) := f652.keep K657 nin0
      have f681 : own_Ar Z T657.heap b631 .boolean 0 (own_I (fun _ => (0 : Int32))) := f654.keep K657 nin0
      have z682 : n0 ≤ T657.heap.size := Nat.le_trans z653 K657.1
      obtain ⟨T683, h683, X683, e683, W683, st683⟩ := putF X657 hx hZ hown (host := "") (Or.inl (hw _ (List.mem_of_getElem? (i := 64) rfl))) Via.refl rfl f677 f668 (Or.inl (hw _ (List.mem_of_getElem? (i := 65) rfl))) (hw _ (List.mem_of_getElem? (i := 2) rfl)) (ty := (.array .boolean)) (by decide) rfl rfl (g := (mkF m 51 #[.val (.ref o)] [(.ref b657), (.ref o)])) rfl rfl (own_hb hby d10_51)
      refine own_Go.of (S' := (T683.setTop (mkF m 54 #[.val (.ref o)] []))) st683 ?_
      have kx684 : own_Kx h0 h683 x := kx666.wr W683 hn4
      have f685 : own_Lt h683 x := f667.wr W683
      have f686 : Exa Z h683 o "com/example/quayside/quayside/Row" := f668.wr W683
      have f687 : own_Ar Z h683 rs .int cap (own_I gs) := f669.other W683 (Ne.symm hn1)
      have f688 : own_Ar Z h683 re .int cap (own_I ge) := f670.other W683 (Ne.symm hn2)
      have f689 : Fld Z h683 o "com/example/quayside/quayside/Row" "starts" "[I" (.ref rs'612) := f671.other W683 (Or.inr (slot_ne (Or.inl (hw _ (List.mem_of_getElem? (i := 15) rfl))) (Or.inl (hw _ (List.mem_of_getElem? (i := 65) rfl))) (by decide) (t := (.array .int)) (t' := (.array .boolean)) (by decide) (by decide)))
      have f690 : Fld Z h683 o "com/example/quayside/quayside/Row" "ends" "[I" (.ref re'612) := f672.other W683 (Or.inr (slot_ne (Or.inl (hw _ (List.mem_of_getElem? (i := 17) rfl))) (Or.inl (hw _ (List.mem_of_getElem? (i := 65) rfl))) (by decide) (t := (.array .int)) (t' := (.array .boolean)) (by decide) (by decide)))
      have f691 : Fld Z h683 o "com/example/quayside/quayside/Row" "size" "I" (.int (Int32.ofNat (k + 1))) := f673.other W683 (Or.inr (slot_ne (Or.inl (hw _ (List.mem_of_getElem? (i := 31) rfl))) (Or.inl (hw _ (List.mem_of_getElem? (i := 65) rfl))) (by decide) (t := .int) (t' := (.array .boolean)) (by decide) (by decide)))
      have f692 : Fld Z h683 o "com/example/quayside/quayside/Row" "reach" "I" (.int (own_maxI r (0 : Int32))) := f674.other W683 (Or.inr (slot_ne (Or.inl (hw _ (List.mem_of_getElem? (i := 33) rfl))) (Or.inl (hw _ (List.mem_of_getElem? (i := 65) rfl))) (by decide) (t := .int) (t' := (.array .boolean)) (by decide) (by decide)))
      have f693 : Fld Z h683 o "com/example/quayside/quayside/Row" "text" "Z" (.int (0 : Int32)) := f675.other W683 (Or.inr (slot_ne (Or.inl (hw _ (List.mem_of_getElem? (i := 39) rfl))) (Or.inl (hw _ (List.mem_of_getElem? (i := 65) rfl))) (by decide) (t := .boolean) (t' := (.array .boolean)) (by decide) (by decide)))
      have f694 : Fld Z h683 o "com/example/quayside/quayside/Row" "bytes" "[B" (.ref bs) := f676.other W683 (Or.inr (slot_ne (Or.inl (hw _ (List.mem_of_getElem? (i := 12) rfl))) (Or.inl (hw _ (List.mem_of_getElem? (i := 65) rfl))) (by decide) (t := (.array .byte)) (t' := (.array .boolean)) (by decide) (by decide)))
      have f695 : Fld Z h683 o "com/example/quayside/quayside/Row" "nullCount" "I" (.int (0 : Int32)) := f678.other W683 (Or.inr (slot_ne (Or.inl (hw _ (List.mem_of_getElem? (i := 52) rfl))) (Or.inl (hw _ (List.mem_of_getElem? (i := 65) rfl))) (by decide) (t := .int) (t' := (.array .boolean)) (by decide) (by decide)))
      have f696 : own_Ar Z h683 rs'612 .int (2 * k) (own_I (own_set (own_cpy gs cap) k (Int32.ofNat 0))) := f679.other W683 (Ne.symm ne615)
      have f697 : own_Ar Z h683 re'612 .int (2 * k) (own_I (own_set (own_cpy ge cap) k (0 : Int32))) := f680.other W683 (Ne.symm ne620)
      have f698 : own_Ar Z h683 b631 .boolean 0 (own_I (fun _ => (0 : Int32))) := f681.other W683 (Ne.symm ne633)
      have f699 : own_Ar Z h683 b657 .boolean (2 * k) (own_I (own_cpy (fun _ => (0 : Int32)) 0)) := p657_1.other W683 (Ne.symm ne660)
      have z700 : n0 ≤ h683.size := Nat.le_trans z682 (Keep.of_wr W683).1
      have f701 : Fld Z h683 o "com/example/quayside/quayside/Row" "nulls" "[Z" (.ref b657) := f677.same W683
      have N683 := Fr.snoc X683 N657 hg1
      refine own_Go.of (S' := (T683.setTop (mkF m 55 #[.val (.ref o)] [(.ref o)]))) (fun t kt => ?_) ?_
      · show Steps p.tables e below (T683.setTop (mkF m 54 #[.val (.ref o)] [])) _
        refine XS.aloadN X683.here hx rfl (own_hb hby d10_54) rfl rfl ?_
        exact kt
      obtain ⟨T702, X702, e702, st702⟩ := getF X683 hx hZ hown (host := "") (Or.inl (hw _ (List.mem_of_getElem? (i := 64) rfl))) Via.refl e683 f701 (g := (mkF m 55 #[.val (.ref o)] [(.ref o)])) rfl rfl (own_hb hby d10_55)
      refine own_Go.of (S' := (T702.setTop (mkF m 58 #[.val (.ref o)] [(.ref b657)]))) st702 ?_
      refine own_Go.of (S' := (T702.setTop (mkF m 59 #[.val (.ref o)] [(.ref o), (.ref b657)]))) (fun t kt => ?_) ?_
      · show Steps p.tables e below (T702.setTop (mkF m 58 #[.val (.ref o)] [(.ref b657)])) _
        refine XS.aloadN X702.here hx rfl (own_hb hby d10_58) rfl rfl ?_
        exact kt
      obtain ⟨T703, X703, e703, st703⟩ := getF X702 hx hZ hown (host := "") (Or.inl (hw _ (List.mem_of_getElem? (i := 30) rfl))) Via.refl e702 f691 (g := (mkF m 59 #[.val (.ref o)] [(.ref o), (.ref b657)])) rfl rfl (own_hb hby d10_59)
      refine own_Go.of (S' := (T703.setTop (mkF m 62 #[.val (.ref o)] [(.int (Int32.ofNat (k + 1))), (.ref b657)]))) st703 ?_
      refine own_Go.of (S' := (T703.setTop (mkF m 65 #[.val (.ref o)] [(.int (1 : Int32)), (.int (Int32.ofNat k)), (.ref b657)]))) (fun t kt => ?_) ?_
      · show Steps p.tables e below (T703.setTop (mkF m 62 #[.val (.ref o)] [(.int (Int32.ofNat (k + 1))), (.ref b657)])) _
        refine XS.iconst X703.here hx rfl (own_hb hby d10_62) ?_
        show Steps p.tables e below (T703.setTop (mkF m 63 #[.val (.ref o)] [(.int (1 : Int32)), (.int (Int32.ofNat (k + 1))), (.ref b657)])) _
        refine XS.isub X703.here hx rfl (own_hb hby d10_63) rfl ?_
        show Steps p.tables e below (T703.setTop (mkF m 64 #[.val (.ref o)] [(.int ((Int32.ofNat (k + 1)) - (1 : Int32))), (.ref b657)])) _
        rw [show Int32.ofNat (k + 1) - (1 : Int32) = Int32.ofNat k from own_subN (a := k + 1) (b := 1) (by omega)]
        show Steps p.tables e below (T703.setTop (mkF m 64 #[.val (.ref o)] [(.int (Int32.ofNat k)), (.ref b657)])) _
        refine XS.iconst X703.here hx rfl (own_hb hby d10_64) ?_
        exact kt
      obtain ⟨cl704, Ar704, hin704, ub704⟩ := own_Ar.put (j := (Int32.ofNat k)) (k := k) f699 ⟨rfl, by omega⟩
      obtain ⟨T704, h704, X704, e704, W704, st704⟩ := stZ X703 hx hZ e703 Ar704 (j := (Int32.ofNat k)) hin704 (g := (mkF m 65 #[.val (.ref o)] [(.int (1 : Int32)), (.int (Int32.ofNat k)), (.ref b657)])) rfl rfl (own_hb hby d10_65)
      refine own_Go.of (S' := (T704.setTop (mkF m 66 #[.val (.ref o)] []))) st704 ?_
      have kx705 : own_Kx h0 h704 x := kx684.wr W704 ne659
      have f706 : own_Lt h704 x := f685.wr W704
      have f707 : Exa Z h704 o "com/example/quayside/quayside/Row" := f686.wr W704
      have f708 : own_Ar Z h704 rs .int cap (own_I gs) := f687.other W704 ne661
      have f709 : own_Ar Z h704 re .int cap (own_I ge) := f688.other W704 ne662
      have f710 : Fld Z h704 o "com/example/quayside/quayside/Row" "starts" "[I" (.ref rs'612) := f689.other W704 (Or.inl ne660)
      have f711 : Fld Z h704 o "com/example/quayside/quayside/Row" "ends" "[I" (.ref re'612) := f690.other W704 (Or.inl ne660)
      have f712 : Fld Z h704 o "com/example/quayside/quayside/Row" "size" "I" (.int (Int32.ofNat (k + 1))) := f691.other W704 (Or.inl ne660)
      have f713 : Fld Z h704 o "com/example/quayside/quayside/Row" "reach" "I" (.int (own_maxI r (0 : Int32))) := f692.other W704 (Or.inl ne660)
      have f714 : Fld Z h704 o "com/example/quayside/quayside/Row" "text" "Z" (.int (0 : Int32)) := f693.other W704 (Or.inl ne660)
      have f715 : Fld Z h704 o "com/example/quayside/quayside/Row" "bytes" "[B" (.ref bs) := f694.other W704 (Or.inl ne660)
      have f716 : Fld Z h704 o "com/example/quayside/quayside/Row" "nulls" "[Z" (.ref b657) := f701.other W704 (Or.inl ne660)
      have f717 : Fld Z h704 o "com/example/quayside/quayside/Row" "nullCount" "I" (.int (0 : Int32)) := f695.other W704 (Or.inl ne660)
      have f718 : own_Ar Z h704 rs'612 .int (2 * k) (own_I (own_set (own_cpy gs cap) k (Int32.ofNat 0))) := f696.other W704 ne663
      have f719 : own_Ar Z h704 re'612 .int (2 * k) (own_I (own_set (own_cpy ge cap) k (0 : Int32))) := f697.other W704 ne664
      have f720 : own_Ar Z h704 b631 .boolean 0 (own_I (fun _ => (0 : Int32))) := f698.other W704 ne665
      have z721 : n0 ≤ h704.size := Nat.le_trans z700 (Keep.of_wr W704).1
      have f722 : own_Ar Z h704 b657 .boolean (2 * k) (own_I (own_set (own_cpy (fun _ => (0 : Int32)) 0) k (nar .boolean (1 : Int32)))) := by rw [← own_upI]; exact ub704 (fits_nar_bool _) W704
      have N704 := Fr.snoc X704 N683 gx658
      refine own_Go.of (S' := (T704.setTop (mkF m 68 #[.val (.ref o)] [(.ref o), (.ref o)]))) (fun t kt => ?_) ?_
      · show Steps p.tables e below (T704.setTop (mkF m 66 #[.val (.ref o)] [])) _
        refine XS.aloadN X704.here hx rfl (own_hb hby d10_66) rfl rfl ?_
        show Steps p.tables e below (T704.setTop (mkF m 67 #[.val (.ref o)] [(.ref o)])) _
        refine XS.dup X704.here hx rfl (own_hb hby d10_67) rfl rfl ?_
        exact kt
      obtain ⟨T723, X723, e723, st723⟩ := getF X704 hx hZ hown (host := "") (Or.inl (hw _ (List.mem_of_getElem? (i := 51) rfl))) Via.refl e704 f717 (g := (mkF m 68 #[.val (.ref o)] [(.ref o), (.ref o)])) rfl rfl (own_hb hby d10_68)
      refine own_Go.of (S' := (T723.setTop (mkF m 71 #[.val (.ref o)] [(.int (0 : Int32)), (.ref o)]))) st723 ?_
      refine own_Go.of (S' := (T723.setTop (mkF m 73 #[.val (.ref o)] [(.int (Int32.ofNat 1)), (.ref o)]))) (fun t kt => ?_) ?_
      · show Steps p.tables e below (T723.setTop (mkF m 71 #[.val (.ref o)] [(.int (0 : Int32)), (.ref o)])) _
        refine XS.iconst X723.here hx rfl (own_hb hby d10_71) ?_
        show Steps p.tables e below (T723.setTop (mkF m 72 #[.val (.ref o)] [(.int (1 : Int32)), (.int (0 : Int32)), (.ref o)])) _
        refine XS.iadd X723.here hx rfl (own_hb hby d10_72) rfl ?_
        show Steps p.tables e below (T723.setTop (mkF m 73 #[.val (.ref o)] [(.int ((0 : Int32) + (1 : Int32))), (.ref o)])) _
        rw [show (0 : Int32) + (1 : Int32) = Int32.ofNat 1 from rfl]
        exact kt
      obtain ⟨T724, h724, X724, e724, W724, st724⟩ := putF X723 hx hZ hown (host := "") (Or.inl (hw _ (List.mem_of_getElem? (i := 51) rfl))) Via.refl e723 f717 f707 (Or.inl (hw _ (List.mem_of_getElem? (i := 52) rfl))) (hw _ (List.mem_of_getElem? (i := 2) rfl)) (ty := .int) (by decide) rfl rfl (g := (mkF m 73 #[.val (.ref o)] [(.int (Int32.ofNat 1)), (.ref o)])) rfl rfl (own_hb hby d10_73)
      refine own_Go.of (S' := (T724.setTop (mkF m 76 #[.val (.ref o)] []))) st724 ?_
      have kx725 : own_Kx h0 h724 x := kx705.wr W724 hn4
      have f726 : own_Lt h724 x := f706.wr W724
      have f727 : Exa Z h724 o "com/example/quayside/quayside/Row" := f707.wr W724
      have f728 : own_Ar Z h724 rs .int cap (own_I gs) := f708.other W724 (Ne.symm hn1)
      have f729 : own_Ar Z h724 re .int cap (own_I ge) := f709.other W724 (Ne.symm hn2)
      have f730 : Fld Z h724 o "com/example/quayside/quayside/Row" "starts" "[I" (.ref rs'612) := f710.other W724 (Or.inr (slot_ne (Or.inl (hw _ (List.mem_of_getElem? (i := 15) rfl))) (Or.inl (hw _ (List.mem_of_getElem? (i := 52) rfl))) (by decide) (t := (.array .int)) (t' := .int) (by decide) (by decide)))
      have f731 : Fld Z h724 o "com/example/quayside/quayside/Row" "ends" "[I" (.ref re'612) := f711.other W724 (Or.inr (slot_ne (Or.inl (hw _ (List.mem_of_getElem? (i := 17) rfl))) (Or.inl (hw _ (List.mem_of_getElem? (i := 52) rfl))) (by decide) (t := (.array .int)) (t' := .int) (by decide) (by decide)))
      have f732 : Fld Z h724 o "com/example/quayside/quayside/Row" "size" "I" (.int (Int32.ofNat (k + 1))) := f712.other W724 (Or.inr (slot_ne (Or.inl (hw _ (List.mem_of_getElem? (i := 31) rfl))) (Or.inl (hw _ (List.mem_of_getElem? (i := 52) rfl))) (by decide) (t := .int) (t' := .int) (by decide) (by decide)))
      have f733 : Fld Z h724 o "com/example/quayside/quayside/Row" "reach" "I" (.int (own_maxI r (0 : Int32))) := f713.other W724 (Or.inr (slot_ne (Or.inl (hw _ (List.mem_of_getElem? (i := 33) rfl))) (Or.inl (hw _ (List.mem_of_getElem? (i := 52) rfl))) (by decide) (t := .int) (t' := .int) (by decide) (by decide)))
      have f734 : Fld Z h724 o "com/example/quayside/quayside/Row" "text" "Z" (.int (0 : Int32)) := f714.other W724 (Or.inr (slot_ne (Or.inl (hw _ (List.mem_of_getElem? (i := 39) rfl))) (Or.inl (hw _ (List.mem_of_getElem? (i := 52) rfl))) (by decide) (t := .boolean) (t' := .int) (by decide) (by decide)))
      have f735 : Fld Z h724 o "com/example/quayside/quayside/Row" "bytes" "[B" (.ref bs) := f715.other W724 (Or.inr (slot_ne (Or.inl (hw _ (List.mem_of_getElem? (i := 12) rfl))) (Or.inl (hw _ (List.mem_of_getElem? (i := 52) rfl))) (by decide) (t := (.array .byte)) (t' := .int) (by decide) (by decide)))
      have f736 : Fld Z h724 o "com/example/quayside/quayside/Row" "nulls" "[Z" (.ref b657) := f716.other W724 (Or.inr (slot_ne (Or.inl (hw _ (List.mem_of_getElem? (i := 65) rfl))) (Or.inl (hw _ (List.mem_of_getElem? (i := 52) rfl))) (by decide) (t := (.array .boolean)) (t' := .int) (by decide) (by decide)))
      have f737 : own_Ar Z h724 rs'612 .int (2 * k) (own_I (own_set (own_cpy gs cap) k (Int32.ofNat 0))) := f718.other W724 (Ne.symm ne615)
      have f738 : own_Ar Z h724 re'612 .int (2 * k) (own_I (own_set (own_cpy ge cap) k (0 : Int32))) := f719.other W724 (Ne.symm ne620)
      have f739 : own_Ar Z h724 b631 .boolean 0 (own_I (fun _ => (0 : Int32))) := f720.other W724 (Ne.symm ne633)
      have f740 : own_Ar Z h724 b657 .boolean (2 * k) (own_I (own_set (own_cpy (fun _ => (0 : Int32)) 0) k (nar .boolean (1 : Int32)))) := f722.other W724 (Ne.symm ne660)
      have z741 : n0 ≤ h724.size := Nat.le_trans z721 (Keep.of_wr W724).1
      have f742 : Fld Z h724 o "com/example/quayside/quayside/Row" "nullCount" "I" (.int (Int32.ofNat 1)) := f717.same W724
      have N724 := Fr.snoc X724 N704 hg1
      exact own_retV X724 hx hlk hret (own_hb hby d10_76) e724 ⟨(2 * k), rfl, N724, kx725, ⟨rs'612, re'612, bs, (own_set (own_cpy gs cap) k (Int32.ofNat 0)), (own_set (own_cpy ge cap) k (0 : Int32)), (0 : Int32), (own_maxI r (0 : Int32)), f727, f730, f731, f732, f733, f734, f735, f737, f738, hg1, gx613, gx618, ne615, ne620, p612_2, hn4, ne614, ne619, (by omega), (by omega), own_s01 hf01 (Or.inr rfl), Or.inr ⟨b657, (2 * k), 1, (own_set (own_cpy (fun _ => (0 : Int32)) 0) k (nar .boolean (1 : Int32))), f736, f742, f740, gx658, ne660, ne663, ne664, ne659, (by omega), (by omega), (by omega), own_nA hf0, (fun i _ _ => by omega), (fun q => by omega)⟩⟩⟩ (by decide) (by decide)
  · skip
    by_cases hkk : k < cap
    · skip
      refine own_Go.of (S' := (T0.setTop (mkF m 3 #[.val (.ref o)] [(.int (0 : Int32)), (.int (0 : Int32)), (.ref o)]))) (fun t kt => ?_) ?_
      · show Steps p.tables e below (T0.setTop (mkF m 0 #[.val (.ref o)] [])) _
        refine XS.aloadN X0.here hx rfl (own_hb hby d10_0) rfl rfl ?_
        show Steps p.tables e below (T0.setTop (mkF m 1 #[.val (.ref o)] [(.ref o)])) _
        refine XS.iconst X0.here hx rfl (own_hb hby d10_1) ?_
        show Steps p.tables e below (T0.setTop (mkF m 2 #[.val (.ref o)] [(.int (0 : Int32)), (.ref o)])) _
        refine XS.iconst X0.here hx rfl (own_hb hby d10_2) ?_
        exact kt
      obtain ⟨cq743, kq743, q743a, q743b, q743c⟩ := isOf hZ e0 hE
      obtain ⟨_, _, ⟨T743, L743, k743, n743⟩, -, X743, ⟨Lc743, hQ743, l743, y743, z743⟩, st743⟩ := X0.virtualBack hx (y := (⟨"com/example/quayside/quayside/Row", "add", "(II)V"⟩ : MethodName)) (z := (⟨"com/example/quayside/quayside/Row", "add", "(II)V"⟩ : MethodName)) hown (mvT hZ (hw _ (List.mem_of_getElem? (i := 63) rfl))) (mvT hZ (hw _ (List.mem_of_getElem? (i := 26) rfl))) (notFace_of_selects (args := #[]) (mvT hZ (hw _ (List.mem_of_getElem? (i := 28) rfl)))) (mvT hZ (hw _ (List.mem_of_getElem? (i := 28) rfl))) (mvT hZ (hw _ (List.mem_of_getElem? (i := 27) rfl))) (by decide) (backOf (W := 0) (rm5s l Z a0 hw [] o 0 (0 : Int32) rs re k cap gs ge r tx bs (.ref rn) (Int32.ofNat c') h0 n0 Z0 hE hF1 hF2 hF3 hF4 hF5 hF6 hm1 hm2 hA1 hA2 hg1 hg2 hg3 hn1 hn2 hn3 (by decide) (by decide) (by omega) (by omega)) hZ (hw _ (List.mem_of_getElem? (i := 29) rfl)) (hw _ (List.mem_of_getElem? (i := 3) rfl)) (by decide) (by decide)) q743a q743c (g := (mkF m 3 #[.val (.ref o)] [(.int (0 : Int32)), (.int (0 : Int32)), (.ref o)])) rfl (by rw [hml]; rfl) (Steps.refl _) (argsL := [(.int (0 : Int32)), (.int (0 : Int32))]) (rest := []) (lenOf pd_2 rfl) rfl (by show 2 * 0 + _ ≤ _; exact Nat.le_of_eq rfl) (own_hb hby d10_3) (fun _ _ => ⟨rfl, e0, (by decide : 0 + 0 ≤ _), (by decide : 0 + 0 ≤ _)⟩)
      dsimp only [Pt.U, Pt.locs, Pt.cells, Pt.slots] at X743 l743 y743 z743 st743 hQ743
      subst l743 y743 z743
      obtain ⟨rfl, N743q, K743, p743_0, p743_1, p743_2, p743_3, p743_4, p743_5, p743_6, p743_7, p743_8, p743_9, p743_10⟩ := hQ743
      have N743 := Fr.app N0 N743q
      refine own_Go.of (S' := (T743.setTop (mkF m 6 #[.val (.ref o)] []))) (fun t kt => st743.trans kt) ?_
      have kx744 : own_Kx h0 T743.heap x := kx0.keep K743 (ninS hn4 (ninS hn5 (ninS hn6 nin0)))
      have f745 : own_Lt T743.heap x := pr2.keep K743
      have f746 : Exa Z T743.heap o "com/example/quayside/quayside/Row" := hE.keep K743
      have f747 : own_Ar Z T743.heap rn .boolean mn (own_I g) := hA3.keep K743 (ninS (Ne.symm hn7) (ninS (Ne.symm hn8) (ninS (Ne.symm hn9) nin0)))
      have z748 : n0 ≤ T743.heap.size := Nat.le_trans Z0 K743.1
      refine own_Go.of (S' := (T743.setTop (mkF m 7 #[.val (.ref o)] [(.ref o)]))) (fun t kt => ?_) ?_
      · show Steps p.tables e below (T743.setTop (mkF m 6 #[.val (.ref o)] [])) _
        refine XS.aloadN X743.here hx rfl (own_hb hby d10_6) rfl rfl ?_
        exact kt
      obtain ⟨T749, X749, e749, st749⟩ := getF X743 hx hZ hown (host := "") (Or.inl (hw _ (List.mem_of_getElem? (i := 64) rfl))) Via.refl rfl p743_7 (g := (mkF m 7 #[.val (.ref o)] [(.ref o)])) rfl rfl (own_hb hby d10_7)
      refine own_Go.of (S' := (T749.setTop (mkF m 10 #[.val (.ref o)] [(.ref rn)]))) st749 ?_
      refine own_Go.of (S' := (T749.setTop (mkF m 14 #[.val (.ref o)] [(.ref o)]))) (fun t kt => ?_) ?_
      · show Steps p.tables e below (T749.setTop (mkF m 10 #[.val (.ref o)] [(.ref rn)])) _
        refine XS.ifnullNo X749.here hx rfl (own_hb hby d10_10) rfl ?_
        show Steps p.tables e below (T749.setTop (mkF m 13 #[.val (.ref o)] [])) _
        refine XS.aloadN X749.here hx rfl (own_hb hby d10_13) rfl rfl ?_
        exact kt
      obtain ⟨T750, X750, e750, st750⟩ := getF X749 hx hZ hown (host := "") (Or.inl (hw _ (List.mem_of_getElem? (i := 64) rfl))) Via.refl e749 p743_7 (g := (mkF m 14 #[.val (.ref o)] [(.ref o)])) rfl rfl (own_hb hby d10_14)
      refine own_Go.of (S' := (T750.setTop (mkF m 17 #[.val (.ref o)] [(.ref rn)]))) st750 ?_
      obtain ⟨cl751, Ar751, hln751⟩ := own_Ar.len f747
      refine own_Go.of (S' := (T750.setTop (mkF m 19 #[.val (.ref o)] [(.ref o), (.int (Int32.ofNat mn))]))) (fun t kt => ?_) ?_
      · show Steps p.tables e below (T750.setTop (mkF m 17 #[.val (.ref o)] [(.ref rn)])) _
        refine X750.arraylength hx (by rw [e750]; exact Ar751.1) (State.isArrayOf_alike hZ.alike Ar751.2.1) (g := (mkF m 17 #[.val (.ref o)] [(.ref rn)])) rfl rfl (own_hb hby d10_17) _ ?_
        rw [hln751]
        show Steps p.tables e below (T750.setTop (mkF m 18 #[.val (.ref o)] [(.int (Int32.ofNat mn))])) _
        refine XS.aloadN X750.here hx rfl (own_hb hby d10_18) rfl rfl ?_
        exact kt
      obtain ⟨T752, X752, e752, st752⟩ := getF X750 hx hZ hown (host := "") (Or.inl (hw _ (List.mem_of_getElem? (i := 30) rfl))) Via.refl e750 p743_3 (g := (mkF m 19 #[.val (.ref o)] [(.ref o), (.int (Int32.ofNat mn))])) rfl rfl (own_hb hby d10_19)
      refine own_Go.of (S' := (T752.setTop (mkF m 22 #[.val (.ref o)] [(.int (Int32.ofNat (k + 1))), (.int (Int32.ofNat mn))]))) st752 ?_
      by_cases hc22_753 : mn < (k + 1)
      · skip
        refine own_Go.of (S' := (T752.setTop (mkF m 27 #[.val (.ref o)] [(.ref o), (.ref o)]))) (fun t kt => ?_) ?_
        · show Steps p.tables e below (T752.setTop (mkF m 22 #[.val (.ref o)] [(.int (Int32.ofNat (k + 1))), (.int (Int32.ofNat mn))])) _
          refine XS.icmpNo X752.here hx rfl (own_hb hby d10_22) rfl (tlt ((own_ltN (by omega) (by omega)).mpr hc22_753)).2.1 ?_
          show Steps p.tables e below (T752.setTop (mkF m 25 #[.val (.ref o)] [])) _
          refine XS.aloadN X752.here hx rfl (own_hb hby d10_25) rfl rfl ?_
          show Steps p.tables e below (T752.setTop (mkF m 26 #[.val (.ref o)] [(.ref o)])) _
          refine XS.aloadN X752.here hx rfl (own_hb hby d10_26) rfl rfl ?_
          exact kt
        obtain ⟨T754, X754, e754, st754⟩ := getF X752 hx hZ hown (host := "") (Or.inl (hw _ (List.mem_of_getElem? (i := 64) rfl))) Via.refl e752 p743_7 (g := (mkF m 27 #[.val (.ref o)] [(.ref o), (.ref o)])) rfl rfl (own_hb hby d10_27)
        refine own_Go.of (S' := (T754.setTop (mkF m 30 #[.val (.ref o)] [(.ref rn), (.ref o)]))) st754 ?_
        refine own_Go.of (S' := (T754.setTop (mkF m 40 #[.val (.ref o)] [(.ref o), (.ref o)]))) (fun t kt => ?_) ?_
        · show Steps p.tables e below (T754.setTop (mkF m 30 #[.val (.ref o)] [(.ref rn), (.ref o)])) _
          refine XS.ifnonnullYes X754.here hx rfl (pc0 := 30) (pc' := 39) rfl (own_hb hby d10_30) rfl (by decide) (by decide) ?_
          show Steps p.tables e below (T754.setTop (mkF m 39 #[.val (.ref o)] [(.ref o)])) _
          refine XS.aloadN X754.here hx rfl (own_hb hby d10_39) rfl rfl ?_
          exact kt
        obtain ⟨T755, X755, e755, st755⟩ := getF X754 hx hZ hown (host := "") (Or.inl (hw _ (List.mem_of_getElem? (i := 64) rfl))) Via.refl e754 p743_7 (g := (mkF m 40 #[.val (.ref o)] [(.ref o), (.ref o)])) rfl rfl (own_hb hby d10_40)
        refine own_Go.of (S' := (T755.setTop (mkF m 43 #[.val (.ref o)] [(.ref rn), (.ref o)]))) st755 ?_
        refine own_Go.of (S' := (T755.setTop (mkF m 44 #[.val (.ref o)] [(.ref o), (.ref rn), (.ref o)]))) (fun t kt => ?_) ?_
        · show Steps p.tables e below (T755.setTop (mkF m 43 #[.val (.ref o)] [(.ref rn), (.ref o)])) _
          refine XS.aloadN X755.here hx rfl (own_hb hby d10_43) rfl rfl ?_
          exact kt
        obtain ⟨T756, X756, e756, st756⟩ := getF X755 hx hZ hown (host := "") (Or.inl (hw _ (List.mem_of_getElem? (i := 14) rfl))) Via.refl e755 p743_1 (g := (mkF m 44 #[.val (.ref o)] [(.ref o), (.ref rn), (.ref o)])) rfl rfl (own_hb hby d10_44)
        refine own_Go.of (S' := (T756.setTop (mkF m 47 #[.val (.ref o)] [(.ref rs), (.ref rn), (.ref o)]))) st756 ?_
        obtain ⟨cl757, Ar757, hln757⟩ := own_Ar.len p743_9
        refine own_Go.of (S' := (T756.setTop (mkF m 48 #[.val (.ref o)] [(.int (Int32.ofNat cap)), (.ref rn), (.ref o)]))) (fun t kt => ?_) ?_
        · show Steps p.tables e below (T756.setTop (mkF m 47 #[.val (.ref o)] [(.ref rs), (.ref rn), (.ref o)])) _
          refine X756.arraylength hx (by rw [e756]; exact Ar757.1) (State.isArrayOf_alike hZ.alike Ar757.2.1) (g := (mkF m 47 #[.val (.ref o)] [(.ref rs), (.ref rn), (.ref o)])) rfl rfl (own_hb hby d10_47) _ ?_
          rw [hln757]
          exact kt
        obtain ⟨_, _, ⟨T758, L758, k758, n758⟩, -, X758, ⟨Lc758, hQ758, l758, y758, z758⟩, st758⟩ := Jvm.LawKit.callS X756 hx (y := (⟨"java/util/Arrays", "copyOf", "([ZI)[Z"⟩ : MethodName)) hown (mvT hZ (hw _ (List.mem_of_getElem? (i := 66) rfl))) (mvT hZ (hw _ (List.mem_of_getElem? (i := 67) rfl))) (mvT hZ (hw _ (List.mem_of_getElem? (i := 68) rfl))) (mvT hZ (hw _ (List.mem_of_getElem? (i := 69) rfl))) (by decide) (backOf (W := 1) (rm11 l Z a0 hw [] rn cap mn g T743.heap n0 z748 f747 (by omega) (by omega)) hZ (hw _ (List.mem_of_getElem? (i := 69) rfl)) (hw _ (List.mem_of_getElem? (i := 68) rfl)) (by decide) (by decide)) (g := (mkF m 48 #[.val (.ref o)] [(.int (Int32.ofNat cap)), (.ref rn), (.ref o)])) rfl (by rw [hml]; rfl) (argsL := [(.ref rn), (.int (Int32.ofNat cap))]) (rest := [(.ref o)]) (lenOf pd_3 rfl) rfl (by show 2 * 0 + _ ≤ _; exact Nat.le_of_eq rfl) (own_hb hby d10_48) (fun _ _ => ⟨rfl, e756, (by decide : 0 + 1 ≤ _), (by decide : 0 + 8 ≤ _)⟩)
        dsimp only [Pt.U, Pt.locs, Pt.cells, Pt.slots] at X758 l758 y758 z758 st758 hQ758
        subst l758 y758 z758
        obtain ⟨b758, rfl, N758q, K758, p758_0, p758_1⟩ := hQ758
        have N758 := Fr.app N743 N758q
        refine own_Go.of (S' := (T758.setTop (mkF m 51 #[.val (.ref o)] [(.ref b758), (.ref o)]))) (fun t kt => st758 t kt) ?_
        have gx759 : n0 ≤ b758 := Nat.le_trans z748 p758_0
        have ne760 : x ≠ b758 := Nat.ne_of_lt (Nat.lt_of_lt_of_le f745.lt p758_0)
        have ne761 : o ≠ b758 := Nat.ne_of_lt (Nat.lt_of_lt_of_le p743_0.lt p758_0)
        have ne762 : rn ≠ b758 := Nat.ne_of_lt (Nat.lt_of_lt_of_le f747.lt p758_0)
        have ne763 : rs ≠ b758 := Nat.ne_of_lt (Nat.lt_of_lt_of_le p743_9.lt p758_0)
        have ne764 : re ≠ b758 := Nat.ne_of_lt (Nat.lt_of_lt_of_le p743_10.lt p758_0)
        have kx765 : own_Kx h0 T758.heap x := kx744.keep K758 nin0
        have f766 : own_Lt T758.heap x := f745.keep K758
        have f767 : Exa Z T758.heap o "com/example/quayside/quayside/Row" := p743_0.keep K758
        have f768 : own_Ar Z T758.heap rn .boolean mn (own_I g) := f747.keep K758 nin0
        have f769 : Fld Z T758.heap o "com/example/quayside/quayside/Row" "starts" "[I" (.ref rs) := p743_1.keep K758 nin0
        have f770 : Fld Z T758.heap o "com/example/quayside/quayside/Row" "ends" "[I" (.ref re) := p743_2.keep K758 nin0
        have f771 : Fld Z T758.heap o "com/example/quayside/quayside/Row" "size" "I" (.int (Int32.ofNat (k + 1))) := p743_3.keep K758 nin0
        have f772 : Fld Z T758.heap o "com/example/quayside/quayside/Row" "reach" "I" (.int (own_maxI r (0 : Int32))) := p743_4.keep K758 nin0
        have f773 : Fld Z T758.heap o "com/example/quayside/quayside/Row" "text" "Z" (.int (0 : Int32)) := p743_5.keep K758 nin0
        have f774 : Fld Z T758.heap o "com/example/quayside/quayside/Row" "bytes" "[B" (.ref bs) := p743_6.keep K758 nin0
        have f775 : Fld Z T758.heap o "com/example/quayside/quayside/Row" "nulls" "[Z" (.ref rn) := p743_7.keep K758 nin0
        have f776 : Fld Z T758.heap o "com/example/quayside/quayside/Row" "nullCount" "I" (.int (Int32.ofNat c')) := p743_8.keep K758 nin0
        have f777 : own_Ar Z T758.heap rs .int cap (own_I (own_set gs k (Int32.ofNat 0))) := p743_9.keep K758 nin0
        have f778 : own_Ar Z T758.heap re .int cap (own_I (own_set ge k (0 : Int32))) := p743_10.keep K758 nin0
        have z779 : n0 ≤ T758.heap.size := Nat.le_trans z748 K758.1
        obtain ⟨T780, h780, X780, e780, W780, st780⟩ := putF X758 hx hZ hown (host := "") (Or.inl (hw _ (List.mem_of_getElem? (i := 64) rfl))) Via.refl rfl f775 f767 (Or.inl (hw _ (List.mem_of_getElem? (i := 65) rfl))) (hw _ (List.mem_of_getElem? (i := 2) rfl)) (ty := (.array .boolean)) (by decide) rfl rfl (g := (mkF m 51 #[.val (.ref o)] [(.ref b758), (.ref o)])) rfl rfl (own_hb hby d10_51)
        refine own_Go.of (S' := (T780.setTop (mkF m 54 #[.val (.ref o)] []))) st780 ?_
        have kx781 : own_Kx h0 h780 x := kx765.wr W780 hn4
        have f782 : own_Lt h780 x := f766.wr W780
        have f783 : Exa Z h780 o "com/example/quayside/quayside/Row" := f767.wr W780
        have f784 : own_Ar Z h780 rn .boolean mn (own_I g) := f768.other W780 (Ne.symm hn7)
        have f785 : Fld Z h780 o "com/example/quayside/quayside/Row" "starts" "[I" (.ref rs) := f769.other W780 (Or.inr (slot_ne (Or.inl (hw _ (List.mem_of_getElem? (i := 15) rfl))) (Or.inl (hw _ (List.mem_of_getElem? (i := 65) rfl))) (by decide) (t := (.array .int)) (t' := (.array .boolean)) (by decide) (by decide)))
        have f786 : Fld Z h780 o "com/example/quayside/quayside/Row" "ends" "[I" (.ref re) := f770.other W780 (Or.inr (slot_ne (Or.inl (hw _ (List.mem_of_getElem? (i := 17) rfl))) (Or.inl (hw _ (List.mem_of_getElem? (i := 65) rfl))) (by decide) (t := (.array .int)) (t' := (.array .boolean)) (by decide) (by decide)))
        have f787 : Fld Z h780 o "com/example/quayside/quayside/Row" "size" "I" (.int (Int32.ofNat (k + 1))) := f771.other W780 (Or.inr (slot_ne (Or.inl (hw _ (List.mem_of_getElem? (i := 31) rfl))) (Or.inl (hw _ (List.mem_of_getElem? (i := 65) rfl))) (by decide) (t := .int) (t' := (.array .boolean)) (by decide) (by decide)))
        have f788 : Fld Z h780 o "com/example/quayside/quayside/Row" "reach" "I" (.int (own_maxI r (0 : Int32))) := f772.other W780 (Or.inr (slot_ne (Or.inl (hw _ (List.mem_of_getElem? (i := 33) rfl))) (Or.inl (hw _ (List.mem_of_getElem? (i := 65) rfl))) (by decide) (t := .int) (t' := (.array .boolean)) (by decide) (by decide)))
        have f789 : Fld Z h780 o "com/example/quayside/quayside/Row" "text" "Z" (.int (0 : Int32)) := f773.other W780 (Or.inr (slot_ne (Or.inl (hw _ (List.mem_of_getElem? (i := 39) rfl))) (Or.inl (hw _ (List.mem_of_getElem? (i := 65) rfl))) (by decide) (t := .boolean) (t' := (.array .boolean)) (by decide) (by decide)))
        have f790 : Fld Z h780 o "com/example/quayside/quayside/Row" "bytes" "[B" (.ref bs) := f774.other W780 (Or.inr (slot_ne (Or.inl (hw _ (List.mem_of_getElem? (i := 12) rfl))) (Or.inl (hw _ (List.mem_of_getElem? (i := 65) rfl))) (by decide) (t := (.array .byte)) (t' := (.array .boolean)) (by decide) (by decide)))
        have f791 : Fld Z h780 o "com/example/quayside/quayside/Row" "nullCount" "I" (.int (Int32.ofNat c')) := f776.other W780 (Or.inr (slot_ne (Or.inl (hw _ (List.mem_of_getElem? (i := 52) rfl))) (Or.inl (hw _ (List.mem_of_getElem? (i := 65) rfl))) (by decide) (t := .int) (t' := (.array .boolean)) (by decide) (by decide)))
        have f792 : own_Ar Z h780 rs .int cap (own_I (own_set gs k (Int32.ofNat 0))) := f777.other W780 (Ne.symm hn1)
        have f793 : own_Ar Z h780 re .int cap (own_I (own_set ge k (0 : Int32))) := f778.other W780 (Ne.symm hn2)
        have f794 : own_Ar Z h780 b758 .boolean cap (own_I (own_cpy g mn)) := p758_1.other W780 (Ne.symm ne761)
        have z795 : n0 ≤ h780.size := Nat.le_trans z779 (Keep.of_wr W780).1
        have f796 : Fld Z h780 o "com/example/quayside/quayside/Row" "nulls" "[Z" (.ref b758) := f775.same W780
        have N780 := Fr.snoc X780 N758 hg1
        refine own_Go.of (S' := (T780.setTop (mkF m 55 #[.val (.ref o)] [(.ref o)]))) (fun t kt => ?_) ?_
        · show Steps p.tables e below (T780.setTop (mkF m 54 #[.val (.ref o)] [])) _
          refine XS.aloadN X780.here hx rfl (own_hb hby d10_54) rfl rfl ?_
          exact kt
        obtain ⟨T797, X797, e797, st797⟩ := getF X780 hx hZ hown (host := "") (Or.inl (hw _ (List.mem_of_getElem? (i := 64) rfl))) Via.refl e780 f796 (g := (mkF m 55 #[.val (.ref o)] [(.ref o)])) rfl rfl (own_hb hby d10_55)
        refine own_Go.of (S' := (T797.setTop (mkF m 58 #[.val (.ref o)] [(.ref b758)]))) st797 ?_
        refine own_Go.of (S' := (T797.setTop (mkF m 59 #[.val (.ref o)] [(.ref o), (.ref b758)]))) (fun t kt => ?_) ?_
        · show Steps p.tables e below (T797.setTop (mkF m 58 #[.val (.ref o)] [(.ref b758)])) _
          refine XS.aloadN X797.here hx rfl (own_hb hby d10_58) rfl rfl ?_
          exact kt
        obtain ⟨T798, X798, e798, st798⟩ := getF X797 hx hZ hown (host := "") (Or.inl (hw _ (List.mem_of_getElem? (i := 30) rfl))) Via.refl e797 f787 (g := (mkF m 59 #[.val (.ref o)] [(.ref o), (.ref b758)])) rfl rfl (own_hb hby d10_59)
        refine own_Go.of (S' := (T798.setTop (mkF m 62 #[.val (.ref o)] [(.int (Int32.ofNat (k + 1))), (.ref b758)]))) st798 ?_
        refine own_Go.of (S' := (T798.setTop (mkF m 65 #[.val (.ref o)] [(.int (1 : Int32)), (.int (Int32.ofNat k)), (.ref b758)]))) (fun t kt => ?_) ?_
        · show Steps p.tables e below (T798.setTop (mkF m 62 #[.val (.ref o)] [(.int (Int32.ofNat (k + 1))), (.ref b758)])) _
          refine XS.iconst X798.here hx rfl (own_hb hby d10_62) ?_
          show Steps p.tables e below (T798.setTop (mkF m 63 #[.val (.ref o)] [(.int (1 : Int32)), (.int (Int32.ofNat (k + 1))), (.ref b758)])) _
          refine XS.isub X798.here hx rfl (own_hb hby d10_63) rfl ?_
          show Steps p.tables e below (T798.setTop (mkF m 64 #[.val (.ref o)] [(.int ((Int32.ofNat (k + 1)) - (1 : Int32))), (.ref b758)])) _
          rw [show Int32.ofNat (k + 1) - (1 : Int32) = Int32.ofNat k from own_subN (a := k + 1) (b := 1) (by omega)]
          show Steps p.tables e below (T798.setTop (mkF m 64 #[.val (.ref o)] [(.int (Int32.ofNat k)), (.ref b758)])) _
          refine XS.iconst X798.here hx rfl (own_hb hby d10_64) ?_
          exact kt
        obtain ⟨cl799, Ar799, hin799, ub799⟩ := own_Ar.put (j := (Int32.ofNat k)) (k := k) f794 ⟨rfl, by omega⟩
        obtain ⟨T799, h799, X799, e799, W799, st799⟩ := stZ X798 hx hZ e798 Ar799 (j := (Int32.ofNat k)) hin799 (g := (mkF m 65 #[.val (.ref o)] [(.int (1 : Int32)), (.int (Int32.ofNat k)), (.ref b758)])) rfl rfl (own_hb hby d10_65)
        refine own_Go.of (S' := (T799.setTop (mkF m 66 #[.val (.ref o)] []))) st799 ?_
        have kx800 : own_Kx h0 h799 x := kx781.wr W799 ne760
        have f801 : own_Lt h799 x := f782.wr W799
        have f802 : Exa Z h799 o "com/example/quayside/quayside/Row" := f783.wr W799
        have f803 : own_Ar Z h799 rn .boolean mn (own_I g) := f784.other W799 ne762
        have f804 : Fld Z h799 o "com/example/quayside/quayside/Row" "starts" "[I" (.ref rs) := f785.other W799 (Or.inl ne761)
        have f805 : Fld Z h799 o "com/example/quayside/quayside/Row" "ends" "[I" (.ref re) := f786.other W799 (Or.inl ne761)
        have f806 : Fld Z h799 o "com/example/quayside/quayside/Row" "size" "I" (.int (Int32.ofNat (k + 1))) := f787.other W799 (Or.inl ne761)
        have f807 : Fld Z h799 o "com/example/quayside/quayside/Row" "reach" "I" (.int (own_maxI r (0 : Int32))) := f788.other W799 (Or.inl ne761)
        have f808 : Fld Z h799 o "com/example/quayside/quayside/Row" "text" "Z" (.int (0 : Int32)) := f789.other W799 (Or.inl ne761)
        have f809 : Fld Z h799 o "com/example/quayside/quayside/Row" "bytes" "[B" (.ref bs) := f790.other W799 (Or.inl ne761)
        have f810 : Fld Z h799 o "com/example/quayside/quayside/Row" "nulls" "[Z" (.ref b758) := f796.other W799 (Or.inl ne761)
        have f811 : Fld Z h799 o "com/example/quayside/quayside/Row" "nullCount" "I" (.int (Int32.ofNat c')) := f791.other W799 (Or.inl ne761)
        have f812 : own_Ar Z h799 rs .int cap (own_I (own_set gs k (Int32.ofNat 0))) := f792.other W799 ne763
        have f813 : own_Ar Z h799 re .int cap (own_I (own_set ge k (0 : Int32))) := f793.other W799 ne764
        have z814 : n0 ≤ h799.size := Nat.le_trans z795 (Keep.of_wr W799).1
        have f815 : own_Ar Z h799 b758 .boolean cap (own_I (own_set (own_cpy g mn) k (nar .boolean (1 : Int32)))) := by rw [← own_upI]; exact ub799 (fits_nar_bool _) W799
        have N799 := Fr.snoc X799 N780 gx759
        refine own_Go.of (S' := (T799.setTop (mkF m 68 #[.val (.ref o)] [(.ref o), (.ref o)]))) (fun t kt => ?_) ?_
        · show Steps p.tables e below (T799.setTop (mkF m 66 #[.val (.ref o)] [])) _
          refine XS.aloadN X799.here hx rfl (own_hb hby d10_66) rfl rfl ?_
          show Steps p.tables e below (T799.setTop (mkF m 67 #[.val (.ref o)] [(.ref o)])) _
          refine XS.dup X799.here hx rfl (own_hb hby d10_67) rfl rfl ?_
          exact kt
        obtain ⟨T816, X816, e816, st816⟩ := getF X799 hx hZ hown (host := "") (Or.inl (hw _ (List.mem_of_getElem? (i := 51) rfl))) Via.refl e799 f811 (g := (mkF m 68 #[.val (.ref o)] [(.ref o), (.ref o)])) rfl rfl (own_hb hby d10_68)
        refine own_Go.of (S' := (T816.setTop (mkF m 71 #[.val (.ref o)] [(.int (Int32.ofNat c')), (.ref o)]))) st816 ?_
        refine own_Go.of (S' := (T816.setTop (mkF m 73 #[.val (.ref o)] [(.int (Int32.ofNat (c' + 1))), (.ref o)]))) (fun t kt => ?_) ?_
        · show Steps p.tables e below (T816.setTop (mkF m 71 #[.val (.ref o)] [(.int (Int32.ofNat c')), (.ref o)])) _
          refine XS.iconst X816.here hx rfl (own_hb hby d10_71) ?_
          show Steps p.tables e below (T816.setTop (mkF m 72 #[.val (.ref o)] [(.int (1 : Int32)), (.int (Int32.ofNat c')), (.ref o)])) _
          refine XS.iadd X816.here hx rfl (own_hb hby d10_72) rfl ?_
          show Steps p.tables e below (T816.setTop (mkF m 73 #[.val (.ref o)] [(.int ((Int32.ofNat c') + (1 : Int32))), (.ref o)])) _
          rw [show Int32.ofNat c' + (1 : Int32) = Int32.ofNat (c' + 1) from own_addN c' 1]
          exact kt
        obtain ⟨T817, h817, X817, e817, W817, st817⟩ := putF X816 hx hZ hown (host := "") (Or.inl (hw _ (List.mem_of_getElem? (i := 51) rfl))) Via.refl e816 f811 f802 (Or.inl (hw _ (List.mem_of_getElem? (i := 52) rfl))) (hw _ (List.mem_of_getElem? (i := 2) rfl)) (ty := .int) (by decide) rfl rfl (g := (mkF m 73 #[.val (.ref o)] [(.int (Int32.ofNat (c' + 1))), (.ref o)])) rfl rfl (own_hb hby d10_73)
        refine own_Go.of (S' := (T817.setTop (mkF m 76 #[.val (.ref o)] []))) st817 ?_
        have kx818 : own_Kx h0 h817 x := kx800.wr W817 hn4
        have f819 : own_Lt h817 x := f801.wr W817
        have f820 : Exa Z h817 o "com/example/quayside/quayside/Row" := f802.wr W817
        have f821 : own_Ar Z h817 rn .boolean mn (own_I g) := f803.other W817 (Ne.symm hn7)
        have f822 : Fld Z h817 o "com/example/quayside/quayside/Row" "starts" "[I" (.ref rs) := f804.other W817 (Or.inr (slot_ne (Or.inl (hw _ (List.mem_of_getElem? (i := 15) rfl))) (Or.inl (hw _ (List.mem_of_getElem? (i := 52) rfl))) (by decide) (t := (.array .int)) (t' := .int) (by decide) (by decide)))
        have f823 : Fld Z h817 o "com/example/quayside/quayside/Row" "ends" "[I" (.ref re) := f805.other W817 (Or.inr (slot_ne (Or.inl (hw _ (List.mem_of_getElem? (i := 17) rfl))) (Or.inl (hw _ (List.mem_of_getElem? (i := 52) rfl))) (by decide) (t := (.array .int)) (t' := .int) (by decide) (by decide)))
        have f824 : Fld Z h817 o "com/example/quayside/quayside/Row" "size" "I" (.int (Int32.ofNat (k + 1))) := f806.other W817 (Or.inr (slot_ne (Or.inl (hw _ (List.mem_of_getElem? (i := 31) rfl))) (Or.inl (hw _ (List.mem_of_getElem? (i := 52) rfl))) (by decide) (t := .int) (t' := .int) (by decide) (by decide)))
        have f825 : Fld Z h817 o "com/example/quayside/quayside/Row" "reach" "I" (.int (own_maxI r (0 : Int32))) := f807.other W817 (Or.inr (slot_ne (Or.inl (hw _ (List.mem_of_getElem? (i := 33) rfl))) (Or.inl (hw _ (List.mem_of_getElem? (i := 52) rfl))) (by decide) (t := .int) (t' := .int) (by decide) (by decide)))
        have f826 : Fld Z h817 o "com/example/quayside/quayside/Row" "text" "Z" (.int (0 : Int32)) := f808.other W817 (Or.inr (slot_ne (Or.inl (hw _ (List.mem_of_getElem? (i := 39) rfl))) (Or.inl (hw _ (List.mem_of_getElem? (i := 52) rfl))) (by decide) (t := .boolean) (t' := .int) (by decide) (by decide)))
        have f827 : Fld Z h817 o "com/example/quayside/quayside/Row" "bytes" "[B" (.ref bs) := f809.other W817 (Or.inr (slot_ne (Or.inl (hw _ (List.mem_of_getElem? (i := 12) rfl))) (Or.inl (hw _ (List.mem_of_getElem? (i := 52) rfl))) (by decide) (t := (.array .byte)) (t' := .int) (by decide) (by decide)))
        have f828 : Fld Z h817 o "com/example/quayside/quayside/Row" "nulls" "[Z" (.ref b758) := f810.other W817 (Or.inr (slot_ne (Or.inl (hw _ (List.mem_of_getElem? (i := 65) rfl))) (Or.inl (hw _ (List.mem_of_getElem? (i := 52) rfl))) (by decide) (t := (.array .boolean)) (t' := .int) (by decide) (by decide)))
        have f829 : own_Ar Z h817 rs .int cap (own_I (own_set gs k (Int32.ofNat 0))) := f812.other W817 (Ne.symm hn1)
        have f830 : own_Ar Z h817 re .int cap (own_I (own_set ge k (0 : Int32))) := f813.other W817 (Ne.symm hn2)
        have f831 : own_Ar Z h817 b758 .boolean cap (own_I (own_set (own_cpy g mn) k (nar .boolean (1 : Int32)))) := f815.other W817 (Ne.symm ne761)
        have z832 : n0 ≤ h817.size := Nat.le_trans z814 (Keep.of_wr W817).1
        have f833 : Fld Z h817 o "com/example/quayside/quayside/Row" "nullCount" "I" (.int (Int32.ofNat (c' + 1))) := f811.same W817
        have N817 := Fr.snoc X817 N799 hg1
        exact own_retV X817 hx hlk hret (own_hb hby d10_76) e817 ⟨cap, rfl, N817, kx818, ⟨rs, re, bs, (own_set gs k (Int32.ofNat 0)), (own_set ge k (0 : Int32)), (0 : Int32), (own_maxI r (0 : Int32)), f820, f822, f823, f824, f825, f826, f827, f829, f830, hg1, hg2, hg3, hn1, hn2, hn3, hn4, hn5, hn6, (by omega), (by omega), own_s01 hf01 (Or.inr rfl), Or.inr ⟨b758, cap, (c' + 1), (own_set (own_cpy g mn) k (nar .boolean (1 : Int32))), f828, f833, f831, gx759, ne761, ne763, ne764, ne760, (by omega), (by omega), (by omega), own_nC (by omega) hq1 hq2, (fun i _ _ => by omega), (fun q => by omega)⟩⟩⟩ (by decide) (by decide)
      · skip
        refine own_Go.of (S' := (T752.setTop (mkF m 55 #[.val (.ref o)] [(.ref o)]))) (fun t kt => ?_) ?_
        · show Steps p.tables e below (T752.setTop (mkF m 22 #[.val (.ref o)] [(.int (Int32.ofNat (k + 1))), (.int (Int32.ofNat mn))])) _
          refine XS.icmpYes X752.here hx rfl (pc0 := 22) (pc' := 54) rfl (own_hb hby d10_22) rfl (flt (fun q => hc22_753 ((own_ltN (by omega) (by omega)).mp q))).2.1 (by decide) (by decide) ?_
          show Steps p.tables e below (T752.setTop (mkF m 54 #[.val (.ref o)] [])) _
          refine XS.aloadN X752.here hx rfl (own_hb hby d10_54) rfl rfl ?_
          exact kt
        obtain ⟨T834, X834, e834, st834⟩ := getF X752 hx hZ hown (host := "") (Or.inl (hw _ (List.mem_of_getElem? (i := 64) rfl))) Via.refl e752 p743_7 (g := (mkF m 55 #[.val (.ref o)] [(.ref o)])) rfl rfl (own_hb hby d10_55)
        refine own_Go.of (S' := (T834.setTop (mkF m 58 #[.val (.ref o)] [(.ref rn)]))) st834 ?_
        refine own_Go.of (S' := (T834.setTop (mkF m 59 #[.val (.ref o)] [(.ref o), (.ref rn)]))) (fun t kt => ?_) ?_
        · show Steps p.tables e below (T834.setTop (mkF m 58 #[.val (.ref o)] [(.ref rn)])) _
          refine XS.aloadN X834.here hx rfl (own_hb hby d10_58) rfl rfl ?_
          exact kt
        obtain ⟨T835, X835, e835, st835⟩ := getF X834 hx hZ hown (host := "") (Or.inl (hw _ (List.mem_of_getElem? (i := 30) rfl))) Via.refl e834 p743_3 (g := (mkF m 59 #[.val (.ref o)] [(.ref o), (.ref rn)])) rfl rfl (own_hb hby d10_59)
        refine own_Go.of (S' := (T835.setTop (mkF m 62 #[.val (.ref o)] [(.int (Int32.ofNat (k + 1))), (.ref rn)]))) st835 ?_
        refine own_Go.of (S' := (T835.setTop (mkF m 65 #[.val (.ref o)] [(.int (1 : Int32)), (.int (Int32.ofNat k)), (.ref rn)]))) (fun t kt => ?_) ?_
        · show Steps p.tables e below (T835.setTop (mkF m 62 #[.val (.ref o)] [(.int (Int32.ofNat (k + 1))), (.ref rn)])) _
          refine XS.iconst X835.here hx rfl (own_hb hby d10_62) ?_
          show Steps p.tables e below (T835.setTop (mkF m 63 #[.val (.ref o)] [(.int (1 : Int32)), (.int (Int32.ofNat (k + 1))), (.ref rn)])) _
          refine XS.isub X835.here hx rfl (own_hb hby d10_63) rfl ?_
          show Steps p.tables e below (T835.setTop (mkF m 64 #[.val (.ref o)] [(.int ((Int32.ofNat (k + 1)) - (1 : Int32))), (.ref rn)])) _
          rw [show Int32.ofNat (k + 1) - (1 : Int32) = Int32.ofNat k from own_subN (a := k + 1) (b := 1) (by omega)]
          show Steps p.tables e below (T835.setTop (mkF m 64 #[.val (.ref o)] [(.int (Int32.ofNat k)), (.ref rn)])) _
          refine XS.iconst X835.here hx rfl (own_hb hby d10_64) ?_
          exact kt
        obtain ⟨cl836, Ar836, hin836, ub836⟩ := own_Ar.put (j := (Int32.ofNat k)) (k := k) f747 ⟨rfl, by omega⟩
        obtain ⟨T836, h836, X836, e836, W836, st836⟩ := stZ X835 hx hZ e835 Ar836 (j := (Int32.ofNat k)) hin836 (g := (mkF m 65 #[.val (.ref o)] [(.int (1 : Int32)), (.int (Int32.ofNat k)), (.ref rn)])) rfl rfl (own_hb hby d10_65)
        refine own_Go.of (S' := (T836.setTop (mkF m 66 #[.val (.ref o)] []))) st836 ?_
        have kx837 : own_Kx h0 h836 x := kx744.wr W836 hn10
        have f838 : own_Lt h836 x := f745.wr W836
        have f839 : Exa Z h836 o "com/example/quayside/quayside/Row" := p743_0.wr W836
        have f840 : Fld Z h836 o "com/example/quayside/quayside/Row" "starts" "[I" (.ref rs) := p743_1.other W836 (Or.inl hn7)
        have f841 : Fld Z h836 o "com/example/quayside/quayside/Row" "ends" "[I" (.ref re) := p743_2.other W836 (Or.inl hn7)
        have f842 : Fld Z h836 o "com/example/quayside/quayside/Row" "size" "I" (.int (Int32.ofNat (k + 1))) := p743_3.other W836 (Or.inl hn7)
        have f843 : Fld Z h836 o "com/example/quayside/quayside/Row" "reach" "I" (.int (own_maxI r (0 : Int32))) := p743_4.other W836 (Or.inl hn7)
        have f844 : Fld Z h836 o "com/example/quayside/quayside/Row" "text" "Z" (.int (0 : Int32)) := p743_5.other W836 (Or.inl hn7)
        have f845 : Fld Z h836 o "com/example/quayside/quayside/Row" "bytes" "[B" (.ref bs) := p743_6.other W836 (Or.inl hn7)
        have f846 : Fld Z h836 o "com/example/quayside/quayside/Row" "nulls" "[Z" (.ref rn) := p743_7.other W836 (Or.inl hn7)
        have f847 : Fld Z h836 o "com/example/quayside/quayside/Row" "nullCount" "I" (.int (Int32.ofNat c')) := p743_8.other W836 (Or.inl hn7)
        have f848 : own_Ar Z h836 rs .int cap (own_I (own_set gs k (Int32.ofNat 0))) := p743_9.other W836 hn8
        have f849 : own_Ar Z h836 re .int cap (own_I (own_set ge k (0 : Int32))) := p743_10.other W836 hn9
        have z850 : n0 ≤ h836.size := Nat.le_trans z748 (Keep.of_wr W836).1
        have f851 : own_Ar Z h836 rn .boolean mn (own_I (own_set g k (nar .boolean (1 : Int32)))) := by rw [← own_upI]; exact ub836 (fits_nar_bool _) W836
        have N836 := Fr.snoc X836 N743 hg4
        refine own_Go.of (S' := (T836.setTop (mkF m 68 #[.val (.ref o)] [(.ref o), (.ref o)]))) (fun t kt => ?_) ?_
        · show Steps p.tables e below (T836.setTop (mkF m 66 #[.val (.ref o)] [])) _
          refine XS.aloadN X836.here hx rfl (own_hb hby d10_66) rfl rfl ?_
          show Steps p.tables e below (T836.setTop (mkF m 67 #[.val (.ref o)] [(.ref o)])) _
          refine XS.dup X836.here hx rfl (own_hb hby d10_67) rfl rfl ?_
          exact kt
        obtain ⟨T852, X852, e852, st852⟩ := getF X836 hx hZ hown (host := "") (Or.inl (hw _ (List.mem_of_getElem? (i := 51) rfl))) Via.refl e836 f847 (g := (mkF m 68 #[.val (.ref o)] [(.ref o), (.ref o)])) rfl rfl (own_hb hby d10_68)
        refine own_Go.of (S' := (T852.setTop (mkF m 71 #[.val (.ref o)] [(.int (Int32.ofNat c')), (.ref o)]))) st852 ?_
        refine own_Go.of (S' := (T852.setTop (mkF m 73 #[.val (.ref o)] [(.int (Int32.ofNat (c' + 1))), (.ref o)]))) (fun t kt => ?_) ?_
        · show Steps p.tables e below (T852.setTop (mkF m 71 #[.val (.ref o)] [(.int (Int32.ofNat c')), (.ref o)])) _
          refine XS.iconst X852.here hx rfl (own_hb hby d10_71) ?_
          show Steps p.tables e below (T852.setTop (mkF m 72 #[.val (.ref o)] [(.int (1 : Int32)), (.int (Int32.ofNat c')), (.ref o)])) _
          refine XS.iadd X852.here hx rfl (own_hb hby d10_72) rfl ?_
          show Steps p.tables e below (T852.setTop (mkF m 73 #[.val (.ref o)] [(.int ((Int32.ofNat c') + (1 : Int32))), (.ref o)])) _
          rw [show Int32.ofNat c' + (1 : Int32) = Int32.ofNat (c' + 1) from own_addN c' 1]
          exact kt
        obtain ⟨T853, h853, X853, e853, W853, st853⟩ := putF X852 hx hZ hown (host := "") (Or.inl (hw _ (List.mem_of_getElem? (i := 51) rfl))) Via.refl e852 f847 f839 (Or.inl (hw _ (List.mem_of_getElem? (i := 52) rfl))) (hw _ (List.mem_of_getElem? (i := 2) rfl)) (ty := .int) (by decide) rfl rfl (g := (mkF m 73 #[.val (.ref o)] [(.int (Int32.ofNat (c' + 1))), (.ref o)])) rfl rfl (own_hb hby d10_73)
        refine own_Go.of (S' := (T853.setTop (mkF m 76 #[.val (.ref o)] []))) st853 ?_
        have kx854 : own_Kx h0 h853 x := kx837.wr W853 hn4
        have f855 : own_Lt h853 x := f838.wr W853
        have f856 : Exa Z h853 o "com/example/quayside/quayside/Row" := f839.wr W853
        have f857 : own_Ar Z h853 rn .boolean mn (own_I (own_set g k (nar .boolean (1 : Int32)))) := f851.other W853 (Ne.symm hn7)
        have f858 : Fld Z h853 o "com/example/quayside/quayside/Row" "starts" "[I" (.ref rs) := f840.other W853 (Or.inr (slot_ne (Or.inl (hw _ (List.mem_of_getElem? (i := 15) rfl))) (Or.inl (hw _ (List.mem_of_getElem? (i := 52) rfl))) (by decide) (t := (.array .int)) (t' := .int) (by decide) (by decide)))
        have f859 : Fld Z h853 o "com/example/quayside/quayside/Row" "ends" "[I" (.ref re) := f841.other W853 (Or.inr (slot_ne (Or.inl (hw _ (List.mem_of_getElem? (i := 17) rfl))) (Or.inl (hw _ (List.mem_of_getElem? (i := 52) rfl))) (by decide) (t := (.array .int)) (t' := .int) (by decide) (by decide)))
        have f860 : Fld Z h853 o "com/example/quayside/quayside/Row" "size" "I" (.int (Int32.ofNat (k + 1))) := f842.other W853 (Or.inr (slot_ne (Or.inl (hw _ (List.mem_of_getElem? (i := 31) rfl))) (Or.inl (hw _ (List.mem_of_getElem? (i := 52) rfl))) (by decide) (t := .int) (t' := .int) (by decide) (by decide)))
        have f861 : Fld Z h853 o "com/example/quayside/quayside/Row" "reach" "I" (.int (own_maxI r (0 : Int32))) := f843.other W853 (Or.inr (slot_ne (Or.inl (hw _ (List.mem_of_getElem? (i := 33) rfl))) (Or.inl (hw _ (List.mem_of_getElem? (i := 52) rfl))) (by decide) (t := .int) (t' := .int) (by decide) (by decide)))
        have f862 : Fld Z h853 o "com/example/quayside/quayside/Row" "text" "Z" (.int (0 : Int32)) := f844.other W853 (Or.inr (slot_ne (Or.inl (hw _ (List.mem_of_getElem? (i := 39) rfl))) (Or.inl (hw _ (List.mem_of_getElem? (i := 52) rfl))) (by decide) (t := .boolean) (t' := .int) (by decide) (by decide)))
        have f863 : Fld Z h853 o "com/example/quayside/quayside/Row" "bytes" "[B" (.ref bs) := f845.other W853 (Or.inr (slot_ne (Or.inl (hw _ (List.mem_of_getElem? (i := 12) rfl))) (Or.inl (hw _ (List.mem_of_getElem? (i := 52) rfl))) (by decide) (t := (.array .byte)) (t' := .int) (by decide) (by decide)))
        have f864 : Fld Z h853 o "com/example/quayside/quayside/Row" "nulls" "[Z" (.ref rn) := f846.other W853 (Or.inr (slot_ne (Or.inl (hw _ (List.mem_of_getElem? (i := 65) rfl))) (Or.inl (hw _ (List.mem_of_getElem? (i := 52) rfl))) (by decide) (t := (.array .boolean)) (t' := .int) (by decide) (by decide)))
        have f865 : own_Ar Z h853 rs .int cap (own_I (own_set gs k (Int32.ofNat 0))) := f848.other W853 (Ne.symm hn1)
        have f866 : own_Ar Z h853 re .int cap (own_I (own_set ge k (0 : Int32))) := f849.other W853 (Ne.symm hn2)
        have z867 : n0 ≤ h853.size := Nat.le_trans z850 (Keep.of_wr W853).1
        have f868 : Fld Z h853 o "com/example/quayside/quayside/Row" "nullCount" "I" (.int (Int32.ofNat (c' + 1))) := f847.same W853
        have N853 := Fr.snoc X853 N836 hg1
        exact own_retV X853 hx hlk hret (own_hb hby d10_76) e853 ⟨cap, rfl, N853, kx854, ⟨rs, re, bs, (own_set gs k (Int32.ofNat 0)), (own_set ge k (0 : Int32)), (0 : Int32), (own_maxI r (0 : Int32)), f856, f858, f859, f860, f861, f862, f863, f865, f866, hg1, hg2, hg3, hn1, hn2, hn3, hn4, hn5, hn6, (by omega), (by omega), own_s01 hf01 (Or.inr rfl), Or.inr ⟨rn, mn, (c' + 1), (own_set g k (nar .boolean (1 : Int32))), f864, f868, f857, hg4, hn7, hn8, hn9, hn10, (by omega), (by omega), (by omega), own_nB (by omega) hq1, (fun i _ _ => by omega), (fun q => by omega)⟩⟩⟩ (by decide) (by decide)
    · skip
      refine own_Go.of (S' := (T0.setTop (mkF m 3 #[.val (.ref o)] [(.int (0 : Int32)), (.int (0 : Int32)), (.ref o)]))) (fun t kt => ?_) ?_
      · show Steps p.tables e below (T0.setTop (mkF m 0 #[.val (.ref o)] [])) _
        refine XS.aloadN X0.here hx rfl (own_hb hby d10_0) rfl rfl ?_
        show Steps p.tables e below (T0.setTop (mkF m 1 #[.val (.ref o)] [(.ref o)])) _
        refine XS.iconst X0.here hx rfl (own_hb hby d10_1) ?_
        show Steps p.tables e below (T0.setTop (mkF m 2 #[.val (.ref o)] [(.int (0 : Int32)), (.ref o)])) _
        refine XS.iconst X0.here hx rfl (own_hb hby d10_2) ?_
        exact kt
      obtain ⟨cq869, kq869, q869a, q869b, q869c⟩ := isOf hZ e0 hE
      obtain ⟨_, _, ⟨T869, L869, k869, n869⟩, -, X869, ⟨Lc869, hQ869, l869, y869, z869⟩, st869⟩ := X0.virtualBack hx (y := (⟨"com/example/quayside/quayside/Row", "add", "(II)V"⟩ : MethodName)) (z := (⟨"com/example/quayside/quayside/Row", "add", "(II)V"⟩ : MethodName)) hown (mvT hZ (hw _ (List.mem_of_getElem? (i := 63) rfl))) (mvT hZ (hw _ (List.mem_of_getElem? (i := 26) rfl))) (notFace_of_selects (args := #[]) (mvT hZ (hw _ (List.mem_of_getElem? (i := 28) rfl)))) (mvT hZ (hw _ (List.mem_of_getElem? (i := 28) rfl))) (mvT hZ (hw _ (List.mem_of_getElem? (i := 27) rfl))) (by decide) (backOf (W := 0) (rm5g l Z a0 hw [] o 0 (0 : Int32) rs re k cap gs ge r tx bs (.ref rn) (Int32.ofNat c') h0 n0 Z0 hE hF1 hF2 hF3 hF4 hF5 hF6 hm1 hm2 hA1 hA2 hg1 hg2 hg3 hn1 hn2 hn3 (by decide) (by decide) (by omega) (by omega)) hZ (hw _ (List.mem_of_getElem? (i := 29) rfl)) (hw _ (List.mem_of_getElem? (i := 3) rfl)) (by decide) (by decide)) q869a q869c (g := (mkF m 3 #[.val (.ref o)] [(.int (0 : Int32)), (.int (0 : Int32)), (.ref o)])) rfl (by rw [hml]; rfl) (Steps.refl _) (argsL := [(.int (0 : Int32)), (.int (0 : Int32))]) (rest := []) (lenOf pd_2 rfl) rfl (by show 2 * 0 + _ ≤ _; exact Nat.le_of_eq rfl) (own_hb hby d10_3) (fun _ _ => ⟨rfl, e0, (by decide : 0 + 2 ≤ _), (by decide : 0 + 16 ≤ _)⟩)
      dsimp only [Pt.U, Pt.locs, Pt.cells, Pt.slots] at X869 l869 y869 z869 st869 hQ869
      subst l869 y869 z869
      obtain ⟨rs'869, re'869, rfl, N869q, K869, p869_0, p869_1, p869_2, p869_3, p869_4, p869_5, p869_6, p869_7, p869_8, p869_9, p869_10, p869_11, p869_12, p869_13⟩ := hQ869
      have N869 := Fr.app N0 N869q
      refine own_Go.of (S' := (T869.setTop (mkF m 6 #[.val (.ref o)] []))) (fun t kt => st869.trans kt) ?_
      have gx870 : n0 ≤ rs'869 := Nat.le_trans Z0 p869_0
      have ne871 : x ≠ rs'869 := Nat.ne_of_lt (Nat.lt_of_lt_of_le pr2.lt p869_0)
      have ne872 : o ≠ rs'869 := Nat.ne_of_lt (Nat.lt_of_lt_of_le hE.lt p869_0)
      have ne873 : rs ≠ rs'869 := Nat.ne_of_lt (Nat.lt_of_lt_of_le hA1.lt p869_0)
      have ne874 : re ≠ rs'869 := Nat.ne_of_lt (Nat.lt_of_lt_of_le hA2.lt p869_0)
      have ne875 : rn ≠ rs'869 := Nat.ne_of_lt (Nat.lt_of_lt_of_le hA3.lt p869_0)
      have gx876 : n0 ≤ re'869 := Nat.le_trans Z0 p869_1
      have ne877 : x ≠ re'869 := Nat.ne_of_lt (Nat.lt_of_lt_of_le pr2.lt p869_1)
      have ne878 : o ≠ re'869 := Nat.ne_of_lt (Nat.lt_of_lt_of_le hE.lt p869_1)
      have ne879 : rs ≠ re'869 := Nat.ne_of_lt (Nat.lt_of_lt_of_le hA1.lt p869_1)
      have ne880 : re ≠ re'869 := Nat.ne_of_lt (Nat.lt_of_lt_of_le hA2.lt p869_1)
      have ne881 : rn ≠ re'869 := Nat.ne_of_lt (Nat.lt_of_lt_of_le hA3.lt p869_1)
      have kx882 : own_Kx h0 T869.heap x := kx0.keep K869 (ninS hn4 nin0)
      have f883 : own_Lt T869.heap x := pr2.keep K869
      have f884 : Exa Z T869.heap o "com/example/quayside/quayside/Row" := hE.keep K869
      have f885 : own_Ar Z T869.heap rs .int cap (own_I gs) := hA1.keep K869 (ninS (Ne.symm hn1) nin0)
      have f886 : own_Ar Z T869.heap re .int cap (own_I ge) := hA2.keep K869 (ninS (Ne.symm hn2) nin0)
      have f887 : own_Ar Z T869.heap rn .boolean mn (own_I g) := hA3.keep K869 (ninS (Ne.symm hn7) nin0)
      have z888 : n0 ≤ T869.heap.size := Nat.le_trans Z0 K869.1
      refine own_Go.of (S' := (T869.setTop (mkF m 7 #[.val (.ref o)] [(.ref o)]))) (fun t kt => ?_) ?_
      · show Steps p.tables e below (T869.setTop (mkF m 6 #[.val (.ref o)] [])) _
        refine XS.aloadN X869.here hx rfl (own_hb hby d10_6) rfl rfl ?_
        exact kt
      obtain ⟨T889, X889, e889, st889⟩ := getF X869 hx hZ hown (host := "") (Or.inl (hw _ (List.mem_of_getElem? (i := 64) rfl))) Via.refl rfl p869_10 (g := (mkF m 7 #[.val (.ref o)] [(.ref o)])) rfl rfl (own_hb hby d10_7)
      refine own_Go.of (S' := (T889.setTop (mkF m 10 #[.val (.ref o)] [(.ref rn)]))) st889 ?_
      refine own_Go.of (S' := (T889.setTop (mkF m 14 #[.val (.ref o)] [(.ref o)]))) (fun t kt => ?_) ?_
      · show Steps p.tables e below (T889.setTop (mkF m 10 #[.val (.ref o)] [(.ref rn)])) _
        refine XS.ifnullNo X889.here hx rfl (own_hb hby d10_10) rfl ?_
        show Steps p.tables e below (T889.setTop (mkF m 13 #[.val (.ref o)] [])) _
        refine XS.aloadN X889.here hx rfl (own_hb hby d10_13) rfl rfl ?_
        exact kt
      obtain ⟨T890, X890, e890, st890⟩ := getF X889 hx hZ hown (host := "") (Or.inl (hw _ (List.mem_of_getElem? (i := 64) rfl))) Via.refl e889 p869_10 (g := (mkF m 14 #[.val (.ref o)] [(.ref o)])) rfl rfl (own_hb hby d10_14)
      refine own_Go.of (S' := (T890.setTop (mkF m 17 #[.val (.ref o)] [(.ref rn)]))) st890 ?_
      obtain ⟨cl891, Ar891, hln891⟩ := own_Ar.len f887
      refine own_Go.of (S' := (T890.setTop (mkF m 19 #[.val (.ref o)] [(.ref o), (.int (Int32.ofNat mn))]))) (fun t kt => ?_) ?_
      · show Steps p.tables e below (T890.setTop (mkF m 17 #[.val (.ref o)] [(.ref rn)])) _
        refine X890.arraylength hx (by rw [e890]; exact Ar891.1) (State.isArrayOf_alike hZ.alike Ar891.2.1) (g := (mkF m 17 #[.val (.ref o)] [(.ref rn)])) rfl rfl (own_hb hby d10_17) _ ?_
        rw [hln891]
        show Steps p.tables e below (T890.setTop (mkF m 18 #[.val (.ref o)] [(.int (Int32.ofNat mn))])) _
        refine XS.aloadN X890.here hx rfl (own_hb hby d10_18) rfl rfl ?_
        exact kt
      obtain ⟨T892, X892, e892, st892⟩ := getF X890 hx hZ hown (host := "") (Or.inl (hw _ (List.mem_of_getElem? (i := 30) rfl))) Via.refl e890 p869_6 (g := (mkF m 19 #[.val (.ref o)] [(.ref o), (.int (Int32.ofNat mn))])) rfl rfl (own_hb hby d10_19)
      refine own_Go.of (S' := (T892.setTop (mkF m 22 #[.val (.ref o)] [(.int (Int32.ofNat (k + 1))), (.int (Int32.ofNat mn))]))) st892 ?_
      by_cases hc22_893 : mn < (k + 1)
      · skip
        refine own_Go.of (S' := (T892.setTop (mkF m 27 #[.val (.ref o)] [(.ref o), (.ref o)]))) (fun t kt => ?_) ?_
        · show Steps p.tables e below (T892.setTop (mkF m 22 #[.val (.ref o)] [(.int (Int32.ofNat (k + 1))), (.int (Int32.ofNat mn))])) _
          refine XS.icmpNo X892.here hx rfl (own_hb hby d10_22) rfl (tlt ((own_ltN (by omega) (by omega)).mpr hc22_893)).2.1 ?_
          show Steps p.tables e below (T892.setTop (mkF m 25 #[.val (.ref o)] [])) _
          refine XS.aloadN X892.here hx rfl (own_hb hby d10_25) rfl rfl ?_
          show Steps p.tables e below (T892.setTop (mkF m 26 #[.val (.ref o)] [(.ref o)])) _
          refine XS.aloadN X892.here hx rfl (own_hb hby d10_26) rfl rfl ?_
          exact kt
        obtain ⟨T894, X894, e894, st894⟩ := getF X892 hx hZ hown (host := "") (Or.inl (hw _ (List.mem_of_getElem? (i := 64) rfl))) Via.refl e892 p869_10 (g := (mkF m 27 #[.val (.ref o)] [(.ref o), (.ref o)])) rfl rfl (own_hb hby d10_27)
        refine own_Go.of (S' := (T894.setTop (mkF m 30 #[.val (.ref o)] [(.ref rn), (.ref o)]))) st894 ?_
        refine own_Go.of (S' := (T894.setTop (mkF m 40 #[.val (.ref o)] [(.ref o), (.ref o)]))) (fun t kt => ?_) ?_
        · show Steps p.tables e below (T894.setTop (mkF m 30 #[.val (.ref o)] [(.ref rn), (.ref o)])) _
          refine XS.ifnonnullYes X894.here hx rfl (pc0 := 30) (pc' := 39) rfl (own_hb hby d10_30) rfl (by decide) (by decide) ?_
          show Steps p.tables e below (T894.setTop (mkF m 39 #[.val (.ref o)] [(.ref o)])) _
          refine XS.aloadN X894.here hx rfl (own_hb hby d10_39) rfl rfl ?_
          exact kt
        obtain ⟨T895, X895, e895, st895⟩ := getF X894 hx hZ hown (host := "") (Or.inl (hw _ (List.mem_of_getElem? (i := 64) rfl))) Via.refl e894 p869_10 (g := (mkF m 40 #[.val (.ref o)] [(.ref o), (.ref o)])) rfl rfl (own_hb hby d10_40)
        refine own_Go.of (S' := (T895.setTop (mkF m 43 #[.val (.ref o)] [(.ref rn), (.ref o)]))) st895 ?_
        refine own_Go.of (S' := (T895.setTop (mkF m 44 #[.val (.ref o)] [(.ref o), (.ref rn), (.ref o)]))) (fun t kt => ?_) ?_
        · show Steps p.tables e below (T895.setTop (mkF m 43 #[.val (.ref o)] [(.ref rn), (.ref o)])) _
          refine XS.aloadN X895.here hx rfl (own_hb hby d10_43) rfl rfl ?_
          exact kt
        obtain ⟨T896, X896, e896, st896⟩ := getF X895 hx hZ hown (host := "") (Or.inl (hw _ (List.mem_of_getElem? (i := 14) rfl))) Via.refl e895 p869_4 (g := (mkF m 44 #[.val (.ref o)] [(.ref o), (.ref rn), (.ref o)])) rfl rfl (own_hb hby d10_44)
        refine own_Go.of (S' := (T896.setTop (mkF m 47 #[.val (.ref o)] [(.ref rs'869), (.ref rn), (.ref o)]))) st896 ?_
        obtain ⟨cl897, Ar897, hln897⟩ := own_Ar.len p869_12
        refine own_Go.of (S' := (T896.setTop (mkF m 48 #[.val (.ref o)] [(.int (Int32.ofNat (2 * k))), (.ref rn), (.ref o)]))) (fun t kt => ?_) ?_
        · show Steps p.tables e below (T896.setTop (mkF m 47 #[.val (.ref o)] [(.ref rs'869), (.ref rn), (.ref o)])) _
          refine X896.arraylength hx (by rw [e896]; exact Ar897.1) (State.isArrayOf_alike hZ.alike Ar897.2.1) (g := (mkF m 47 #[.val (.ref o)] [(.ref rs'869), (.ref rn), (.ref o)])) rfl rfl (own_hb hby d10_47) _ ?_
          rw [hln897]
          exact kt
        obtain ⟨_, _, ⟨T898, L898, k898, n898⟩, -, X898, ⟨Lc898, hQ898, l898, y898, z898⟩, st898⟩ := Jvm.LawKit.callS X896 hx (y := (⟨"java/util/Arrays", "copyOf", "([ZI)[Z"⟩ : MethodName)) hown (mvT hZ (hw _ (List.mem_of_getElem? (i := 66) rfl))) (mvT hZ (hw _ (List.mem_of_getElem? (i := 67) rfl))) (mvT hZ (hw _ (List.mem_of_getElem? (i := 68) rfl))) (mvT hZ (hw _ (List.mem_of_getElem? (i := 69) rfl))) (by decide) (backOf (W := 1) (rm11 l Z a0 hw [] rn (2 * k) mn g T869.heap n0 z888 f887 (by omega) (by omega)) hZ (hw _ (List.mem_of_getElem? (i := 69) rfl)) (hw _ (List.mem_of_getElem? (i := 68) rfl)) (by decide) (by decide)) (g := (mkF m 48 #[.val (.ref o)] [(.int (Int32.ofNat (2 * k))), (.ref rn), (.ref o)])) rfl (by rw [hml]; rfl) (argsL := [(.ref rn), (.int (Int32.ofNat (2 * k)))]) (rest := [(.ref o)]) (lenOf pd_3 rfl) rfl (by show 2 * 0 + _ ≤ _; exact Nat.le_of_eq rfl) (own_hb hby d10_48) (fun _ _ => ⟨rfl, e896, (by decide : 2 + 1 ≤ _), (by decide : 16 + 8 ≤ _)⟩)
        dsimp only [Pt.U, Pt.locs, Pt.cells, Pt.slots] at X898 l898 y898 z898 st898 hQ898
        subst l898 y898 z898
        obtain ⟨b898, rfl, N898q, K898, p898_0, p898_1⟩ := hQ898
        have N898 := Fr.app N869 N898q
        refine own_Go.of (S' := (T898.setTop (mkF m 51 #[.val (.ref o)] [(.ref b898), (.ref o)]))) (fun t kt => st898 t kt) ?_
        have gx899 : n0 ≤ b898 := Nat.le_trans z888 p898_0
        have ne900 : x ≠ b898 := Nat.ne_of_lt (Nat.lt_of_lt_of_le f883.lt p898_0)
        have ne901 : o ≠ b898 := Nat.ne_of_lt (Nat.lt_of_lt_of_le p869_3.lt p898_0)
        have ne902 : rs ≠ b898 := Nat.ne_of_lt (Nat.lt_of_lt_of_le f885.lt p898_0)
        have ne903 : re ≠ b898 := Nat.ne_of_lt (Nat.lt_of_lt_of_le f886.lt p898_0)
        have ne904 : rn ≠ b898 := Nat.ne_of_lt (Nat.lt_of_lt_of_le f887.lt p898_0)
        have ne905 : rs'869 ≠ b898 := Nat.ne_of_lt (Nat.lt_of_lt_of_le p869_12.lt p898_0)
        have ne906 : re'869 ≠ b898 := Nat.ne_of_lt (Nat.lt_of_lt_of_le p869_13.lt p898_0)
        have kx907 : own_Kx h0 T898.heap x := kx882.keep K898 nin0
        have f908 : own_Lt T898.heap x := f883.keep K898
        have f909 : Exa Z T898.heap o "com/example/quayside/quayside/Row" := p869_3.keep K898
        have f910 : own_Ar Z T898.heap rs .int cap (own_I gs) := f885.keep K898 nin0
        have f911 : own_Ar Z T898.heap re .int cap (own_I ge) := f886.keep K898 nin0
        have f912 : own_Ar Z T898.heap rn .boolean mn (own_I g) := f887.keep K898 nin0
        have f913 : Fld Z T898.heap o "com/example/quayside/quayside/Row" "starts" "[I" (.ref rs'869) := p869_4.keep K898 nin0
        have f914 : Fld Z T898.heap o "com/example/quayside/quayside/Row" "ends" "[I" (.ref re'869) := p869_5.keep K898 nin0
        have f915 : Fld Z T898.heap o "com/example/quayside/quayside/Row" "size" "I" (.int (Int32.ofNat (k + 1))) := p869_6.keep K898 nin0
        have f916 : Fld Z T898.heap o "com/example/quayside/quayside/Row" "reach" "I" (.int (own_maxI r (0 : Int32))) := p869_7.keep K898 nin0
        have f917 : Fld Z T898.heap o "com/example/quayside/quayside/Row" "text" "Z" (.int (0 : Int32)) := p869_8.keep K898 nin0
        have f918 : Fld Z T898.heap o "com/example/quayside/quayside/Row" "bytes" "[B" (.ref bs) := p869_9.keep K898 nin0
        have f919 : Fld Z T898.heap o "com/example/quayside/quayside/Row" "nulls" "[Z" (.ref rn) := p869_10.keep K898 nin0
        have f920 : Fld Z T898.heap o "com/example/quayside/quayside/Row" "nullCount" "I" (.int (Int32.ofNat c')) := p869_11.keep K898 nin0
        have f921 : own_Ar Z T898.heap rs'869 .int (2 * k) (own_I (own_set (own_cpy gs cap) k (Int32.ofNat 0))) := p869_12.keep K898 nin0
        have f922 : own_Ar Z T898.heap re'869 .int (2 * k) (own_I (own_set (own_cpy ge cap) k (0 : Int32))) := p869_13.keep K898 nin0
        have z923 : n0 ≤ T898.heap.size := Nat.le_trans z888 K898.1
        obtain ⟨T924, h924, X924, e924, W924, st924⟩ := putF X898 hx hZ hown (host := "") (Or.inl (hw _ (List.mem_of_getElem? (i := 64) rfl))) Via.refl rfl f919 f909 (Or.inl (hw _ (List.mem_of_getElem? (i := 65) rfl))) (hw _ (List.mem_of_getElem? (i := 2) rfl)) (ty := (.array .boolean)) (by decide) rfl rfl (g := (mkF m 51 #[.val (.ref o)] [(.ref b898), (.ref o)])) rfl rfl (own_hb hby d10_51)
        refine own_Go.of (S' := (T924.setTop (mkF m 54 #[.val (.ref o)] []))) st924 ?_
        have kx925 : own_Kx h0 h924 x := kx907.wr W924 hn4
        have f926 : own_Lt h924 x := f908.wr W924
        have f927 : Exa Z h924 o "com/example/quayside/quayside/Row" := f909.wr W924
        have f928 : own_Ar Z h924 rs .int cap (own_I gs) := f910.other W924 (Ne.symm hn1)
        have f929 : own_Ar Z h924 re .int cap (own_I ge) := f911.other W924 (Ne.symm hn2)
        have f930 : own_Ar Z h924 rn .boolean mn (own_I g) := f912.other W924 (Ne.symm hn7)
        have f931 : Fld Z h924 o "com/example/quayside/quayside/Row" "starts" "[I" (.ref rs'869) := f913.other W924 (Or.inr (slot_ne (Or.inl (hw _ (List.mem_of_getElem? (i := 15) rfl))) (Or.inl (hw _ (List.mem_of_getElem? (i := 65) rfl))) (by decide) (t := (.array .int)) (t' := (.array .boolean)) (by decide) (by decide)))
        have f932 : Fld Z h924 o "com/example/quayside/quayside/Row" "ends" "[I" (.ref re'869) := f914.other W924 (Or.inr (slot_ne (Or.inl (hw _ (List.mem_of_getElem? (i := 17) rfl))) (Or.inl (hw _ (List.mem_of_getElem? (i := 65) rfl))) (by decide) (t := (.array .int)) (t' := (.array .boolean)) (by decide) (by decide)))
        have f933 : Fld Z h924 o "com/example/quayside/quayside/Row" "size" "I" (.int (Int32.ofNat (k + 1))) := f915.other W924 (Or.inr (slot_ne (Or.inl (hw _ (List.mem_of_getElem? (i := 31) rfl))) (Or.inl (hw _ (List.mem_of_getElem? (i := 65) rfl))) (by decide) (t := .int) (t' := (.array .boolean)) (by decide) (by decide)))
        have f934 : Fld Z h924 o "com/example/quayside/quayside/Row" "reach" "I" (.int (own_maxI r (0 : Int32))) := f916.other W924 (Or.inr (slot_ne (Or.inl (hw _ (List.mem_of_getElem? (i := 33) rfl))) (Or.inl (hw _ (List.mem_of_getElem? (i := 65) rfl))) (by decide) (t := .int) (t' := (.array .boolean)) (by decide) (by decide)))
        have f935 : Fld Z h924 o "com/example/quayside/quayside/Row" "text" "Z" (.int (0 : Int32)) := f917.other W924 (Or.inr (slot_ne (Or.inl (hw _ (List.mem_of_getElem? (i := 39) rfl))) (Or.inl (hw _ (List.mem_of_getElem? (i := 65) rfl))) (by decide) (t := .boolean) (t' := (.array .boolean)) (by decide) (by decide)))
        have f936 : Fld Z h924 o "com/example/quayside/quayside/Row" "bytes" "[B" (.ref bs) := f918.other W924 (Or.inr (slot_ne (Or.inl (hw _ (List.mem_of_getElem? (i := 12) rfl))) (Or.inl (hw _ (List.mem_of_getElem? (i := 65) rfl))) (by decide) (t := (.array .byte)) (t' := (.array .boolean)) (by decide) (by decide)))
        have f937 : Fld Z h924 o "com/example/quayside/quayside/Row" "nullCount" "I" (.int (Int32.ofNat c')) := f920.other W924 (Or.inr (slot_ne (Or.inl (hw _ (List.mem_of_getElem? (i := 52) rfl))) (Or.inl (hw _ (List.mem_of_getElem? (i := 65) rfl))) (by decide) (t := .int) (t' := (.array .boolean)) (by decide) (by decide)))
        have f938 : own_Ar Z h924 rs'869 .int (2 * k) (own_I (own_set (own_cpy gs cap) k (Int32.ofNat 0))) := f921.other W924 (Ne.symm ne872)
        have f939 : own_Ar Z h924 re'869 .int (2 * k) (own_I (own_set (own_cpy ge cap) k (0 : Int32))) := f922.other W924 (Ne.symm ne878)
        have f940 : own_Ar Z h924 b898 .boolean (2 * k) (own_I (own_cpy g mn)) := p898_1.other W924 (Ne.symm ne901)
        have z941 : n0 ≤ h924.size := Nat.le_trans z923 (Keep.of_wr W924).1
        have f942 : Fld Z h924 o "com/example/quayside/quayside/Row" "nulls" "[Z" (.ref b898) := f919.same W924
        have N924 := Fr.snoc X924 N898 hg1
        refine own_Go.of (S' := (T924.setTop (mkF m 55 #[.val (.ref o)] [(.ref o)]))) (fun t kt => ?_) ?_
        · show Steps p.tables e below (T924.setTop (mkF m 54 #[.val (.ref o)] [])) _
          refine XS.aloadN X924.here hx rfl (own_hb hby d10_54) rfl rfl ?_
          exact kt
        obtain ⟨T943, X943, e943, st943⟩ := getF X924 hx hZ hown (host := "") (Or.inl (hw _ (List.mem_of_getElem? (i := 64) rfl))) Via.refl e924 f942 (g := (mkF m 55 #[.val (.ref o)] [(.ref o)])) rfl rfl (own_hb hby d10_55)
        refine own_Go.of (S' := (T943.setTop (mkF m 58 #[.val (.ref o)] [(.ref b898)]))) st943 ?_
        refine own_Go.of (S' := (T943.setTop (mkF m 59 #[.val (.ref o)] [(.ref o), (.ref b898)]))) (fun t kt => ?_) ?_
        · show Steps p.tables e below (T943.setTop (mkF m 58 #[.val (.ref o)] [(.ref b898)])) _
          refine XS.aloadN X943.here hx rfl (own_hb hby d10_58) rfl rfl ?_
          exact kt
        obtain ⟨T944, X944, e944, st944⟩ := getF X943 hx hZ hown (host := "") (Or.inl (hw _ (List.mem_of_getElem? (i := 30) rfl))) Via.refl e943 f933 (g := (mkF m 59 #[.val (.ref o)] [(.ref o), (.ref b898)])) rfl rfl (own_hb hby d10_59)
        refine own_Go.of (S' := (T944.setTop (mkF m 62 #[.val (.ref o)] [(.int (Int32.ofNat (k + 1))), (.ref b898)]))) st944 ?_
        refine own_Go.of (S' := (T944.setTop (mkF m 65 #[.val (.ref o)] [(.int (1 : Int32)), (.int (Int32.ofNat k)), (.ref b898)]))) (fun t kt => ?_) ?_
        · show Steps p.tables e below (T944.setTop (mkF m 62 #[.val (.ref o)] [(.int (Int32.ofNat (k + 1))), (.ref b898)])) _
          refine XS.iconst X944.here hx rfl (own_hb hby d10_62) ?_
          show Steps p.tables e below (T944.setTop (mkF m 63 #[.val (.ref o)] [(.int (1 : Int32)), (.int (Int32.ofNat (k + 1))), (.ref b898)])) _
          refine XS.isub X944.here hx rfl (own_hb hby d10_63) rfl ?_
          show Steps p.tables e below (T944.setTop (mkF m 64 #[.val (.ref o)] [(.int ((Int32.ofNat (k + 1)) - (1 : Int32))), (.ref b898)])) _
          rw [show Int32.ofNat (k + 1) - (1 : Int32) = Int32.ofNat k from own_subN (a := k + 1) (b := 1) (by omega)]
          show Steps p.tables e below (T944.setTop (mkF m 64 #[.val (.ref o)] [(.int (Int32.ofNat k)), (.ref b898)])) _
          refine XS.iconst X944.here hx rfl (own_hb hby d10_64) ?_
          exact kt
        obtain ⟨cl945, Ar945, hin945, ub945⟩ := own_Ar.put (j := (Int32.ofNat k)) (k := k) f940 ⟨rfl, by omega⟩
        obtain ⟨T945, h945, X945, e945, W945, st945⟩ := stZ X944 hx hZ e944 Ar945 (j := (Int32.ofNat k)) hin945 (g := (mkF m 65 #[.val (.ref o)] [(.int (1 : Int32)), (.int (Int32.ofNat k)), (.ref b898)])) rfl rfl (own_hb hby d10_65)
        refine own_Go.of (S' := (T945.setTop (mkF m 66 #[.val (.ref o)] []))) st945 ?_
        have kx946 : own_Kx h0 h945 x := kx925.wr W945 ne900
        have f947 : own_Lt h945 x := f926.wr W945
        have f948 : Exa Z h945 o "com/example/quayside/quayside/Row" := f927.wr W945
        have f949 : own_Ar Z h945 rs .int cap (own_I gs) := f928.other W945 ne902
        have f950 : own_Ar Z h945 re .int cap (own_I ge) := f929.other W945 ne903
        have f951 : own_Ar Z h945 rn .boolean mn (own_I g) := f930.other W945 ne904
        have f952 : Fld Z h945 o "com/example/quayside/quayside/Row" "starts" "[I" (.ref rs'869) := f931.other W945 (Or.inl ne901)
        have f953 : Fld Z h945 o "com/example/quayside/quayside/Row" "ends" "[I" (.ref re'869) := f932.other W945 (Or.inl ne901)
        have f954 : Fld Z h945 o "com/example/quayside/quayside/Row" "size" "I" (.int (Int32.ofNat (k + 1))) := f933.other W945 (Or.inl ne901)
        have f955 : Fld Z h945 o "com/example/quayside/quayside/Row" "reach" "I" (.int (own_maxI r (0 : Int32))) := f934.other W945 (Or.inl ne901)
        have f956 : Fld Z h945 o "com/example/quayside/quayside/Row" "text" "Z" (.int (0 : Int32)) := f935.other W945 (Or.inl ne901)
        have f957 : Fld Z h945 o "com/example/quayside/quayside/Row" "bytes" "[B" (.ref bs) := f936.other W945 (Or.inl ne901)
        have f958 : Fld Z h945 o "com/example/quayside/quayside/Row" "nulls" "[Z" (.ref b898) := f942.other W945 (Or.inl ne901)
        have f959 : Fld Z h945 o "com/example/quayside/quayside/Row" "nullCount" "I" (.int (Int32.ofNat c')) := f937.other W945 (Or.inl ne901)
        have f960 : own_Ar Z h945 rs'869 .int (2 * k) (own_I (own_set (own_cpy gs cap) k (Int32.ofNat 0))) := f938.other W945 ne905
        have f961 : own_Ar Z h945 re'869 .int (2 * k) (own_I (own_set (own_cpy ge cap) k (0 : Int32))) := f939.other W945 ne906
        have z962 : n0 ≤ h945.size := Nat.le_trans z941 (Keep.of_wr W945).1
        have f963 : own_Ar Z h945 b898 .boolean (2 * k) (own_I (own_set (own_cpy g mn) k (nar .boolean (1 : Int32)))) := by rw [← own_upI]; exact ub945 (fits_nar_bool _) W945
        have N945 := Fr.snoc X945 N924 gx899
        refine own_Go.of (S' := (T945.setTop (mkF m 68 #[.val (.ref o)] [(.ref o), (.ref o)]))) (fun t kt => ?_) ?_
        · show Steps p.tables e below (T945.setTop (mkF m 66 #[.val (.ref o)] [])) _
          refine XS.aloadN X945.here hx rfl (own_hb hby d10_66) rfl rfl ?_
          show Steps p.tables e below (T945.setTop (mkF m 67 #[.val (.ref o)] [(.ref o)])) _
          refine XS.dup X945.here hx rfl (own_hb hby d10_67) rfl rfl ?_
          exact kt
        obtain ⟨T964, X964, e964, st964⟩ := getF X945 hx hZ hown (host := "") (Or.inl (hw _ (List.mem_of_getElem? (i := 51) rfl))) Via.refl e945 f959 (g := (mkF m 68 #[.val (.ref o)] [(.ref o), (.ref o)])) rfl rfl (own_hb hby d10_68)
        refine own_Go.of (S' := (T964.setTop (mkF m 71 #[.val (.ref o)] [(.int (Int32.ofNat c')), (.ref o)]))) st964 ?_
        refine own_Go.of (S' := (T964.setTop (mkF m 73 #[.val (.ref o)] [(.int (Int32.ofNat (c' + 1))), (.ref o)]))) (fun t kt => ?_) ?_
        · show Steps p.tables e below (T964.setTop (mkF m 71 #[.val (.ref o)] [(.int (Int32.ofNat c')), (.ref o)])) _
          refine XS.iconst X964.here hx rfl (own_hb hby d10_71) ?_
          show Steps p.tables e below (T964.setTop (mkF m 72 #[.val (.ref o)] [(.int (1 : Int32)), (.int (Int32.ofNat c')), (.ref o)])) _
          refine XS.iadd X964.here hx rfl (own_hb hby d10_72) rfl ?_
          show Steps p.tables e below (T964.setTop (mkF m 73 #[.val (.ref o)] [(.int ((Int32.ofNat c') + (1 : Int32))), (.ref o)])) _
          rw [show Int32.ofNat c' + (1 : Int32) = Int32.ofNat (c' + 1) from own_addN c' 1]
          exact kt
        obtain ⟨T965, h965, X965, e965, W965, st965⟩ := putF X964 hx hZ hown (host := "") (Or.inl (hw _ (List.mem_of_getElem? (i := 51) rfl))) Via.refl e964 f959 f948 (Or.inl (hw _ (List.mem_of_getElem? (i := 52) rfl))) (hw _ (List.mem_of_getElem? (i := 2) rfl)) (ty := .int) (by decide) rfl rfl (g := (mkF m 73 #[.val (.ref o)] [(.int (Int32.ofNat (c' + 1))), (.ref o)])) rfl rfl (own_hb hby d10_73)
        refine own_Go.of (S' := (T965.setTop (mkF m 76 #[.val (.ref o)] []))) st965 ?_
        have kx966 : own_Kx h0 h965 x := kx946.wr W965 hn4
        have f967 : own_Lt h965 x := f947.wr W965
        have f968 : Exa Z h965 o "com/example/quayside/quayside/Row" := f948.wr W965
        have f969 : own_Ar Z h965 rs .int cap (own_I gs) := f949.other W965 (Ne.symm hn1)
        have f970 : own_Ar Z h965 re .int cap (own_I ge) := f950.other W965 (Ne.symm hn2)
        have f971 : own_Ar Z h965 rn .boolean mn (own_I g) := f951.other W965 (Ne.symm hn7)
        have f972 : Fld Z h965 o "com/example/quayside/quayside/Row" "starts" "[I" (.ref rs'869) := f952.other W965 (Or.inr (slot_ne (Or.inl (hw _ (List.mem_of_getElem? (i := 15) rfl))) (Or.inl (hw _ (List.mem_of_getElem? (i := 52) rfl))) (by decide) (t := (.array .int)) (t' := .int) (by decide) (by decide)))
        have f973 : Fld Z h965 o "com/example/quayside/quayside/Row" "ends" "[I" (.ref re'869) := f953.other W965 (Or.inr (slot_ne (Or.inl (hw _ (List.mem_of_getElem? (i := 17) rfl))) (Or.inl (hw _ (List.mem_of_getElem? (i := 52) rfl))) (by decide) (t := (.array .int)) (t' := .int) (by decide) (by decide)))
        have f974 : Fld Z h965 o "com/example/quayside/quayside/Row" "size" "I" (.int (Int32.ofNat (k + 1))) := f954.other W965 (Or.inr (slot_ne (Or.inl (hw _ (List.mem_of_getElem? (i := 31) rfl))) (Or.inl (hw _ (List.mem_of_getElem? (i := 52) rfl))) (by decide) (t := .int) (t' := .int) (by decide) (by decide)))
        have f975 : Fld Z h965 o "com/example/quayside/quayside/Row" "reach" "I" (.int (own_maxI r (0 : Int32))) := f955.other W965 (Or.inr (slot_ne (Or.inl (hw _ (List.mem_of_getElem? (i := 33) rfl))) (Or.inl (hw _ (List.mem_of_getElem? (i := 52) rfl))) (by decide) (t := .int) (t' := .int) (by decide) (by decide)))
        have f976 : Fld Z h965 o "com/example/quayside/quayside/Row" "text" "Z" (.int (0 : Int32)) := f956.other W965 (Or.inr (slot_ne (Or.inl (hw _ (List.mem_of_getElem? (i := 39) rfl))) (Or.inl (hw _ (List.mem_of_getElem? (i := 52) rfl))) (by decide) (t := .boolean) (t' := .int) (by decide) (by decide)))
        have f977 : Fld Z h965 o "com/example/quayside/quayside/Row" "bytes" "[B" (.ref bs) := f957.other W965 (Or.inr (slot_ne (Or.inl (hw _ (List.mem_of_getElem? (i := 12) rfl))) (Or.inl (hw _ (List.mem_of_getElem? (i := 52) rfl))) (by decide) (t := (.array .byte)) (t' := .int) (by decide) (by decide)))
        have f978 : Fld Z h965 o "com/example/quayside/quayside/Row" "nulls" "[Z" (.ref b898) := f958.other W965 (Or.inr (slot_ne (Or.inl (hw _ (List.mem_of_getElem? (i := 65) rfl))) (Or.inl (hw _ (List.mem_of_getElem? (i := 52) rfl))) (by decide) (t := (.array .boolean)) (t' := .int) (by decide) (by decide)))
        have f979 : own_Ar Z h965 rs'869 .int (2 * k) (own_I (own_set (own_cpy gs cap) k (Int32.ofNat 0))) := f960.other W965 (Ne.symm ne872)
        have f980 : own_Ar Z h965 re'869 .int (2 * k) (own_I (own_set (own_cpy ge cap) k (0 : Int32))) := f961.other W965 (Ne.symm ne878)
        have f981 : own_Ar Z h965 b898 .boolean (2 * k) (own_I (own_set (own_cpy g mn) k (nar .boolean (1 : Int32)))) := f963.other W965 (Ne.symm ne901)
        have z982 : n0 ≤ h965.size := Nat.le_trans z962 (Keep.of_wr W965).1
        have f983 : Fld Z h965 o "com/example/quayside/quayside/Row" "nullCount" "I" (.int (Int32.ofNat (c' + 1))) := f959.same W965
        have N965 := Fr.snoc X965 N945 hg1
        exact own_retV X965 hx hlk hret (own_hb hby d10_76) e965 ⟨(2 * k), rfl, N965, kx966, ⟨rs'869, re'869, bs, (own_set (own_cpy gs cap) k (Int32.ofNat 0)), (own_set (own_cpy ge cap) k (0 : Int32)), (0 : Int32), (own_maxI r (0 : Int32)), f968, f972, f973, f974, f975, f976, f977, f979, f980, hg1, gx870, gx876, ne872, ne878, p869_2, hn4, ne871, ne877, (by omega), (by omega), own_s01 hf01 (Or.inr rfl), Or.inr ⟨b898, (2 * k), (c' + 1), (own_set (own_cpy g mn) k (nar .boolean (1 : Int32))), f978, f983, f981, gx899, ne901, ne905, ne906, ne900, (by omega), (by omega), (by omega), own_nC (by omega) hq1 hq2, (fun i _ _ => by omega), (fun q => by omega)⟩⟩⟩ (by decide) (by decide)
      · skip
        refine own_Go.of (S' := (T892.setTop (mkF m 55 #[.val (.ref o)] [(.ref o)]))) (fun t kt => ?_) ?_
        · show Steps p.tables e below (T892.setTop (mkF m 22 #[.val (.ref o)] [(.int (Int32.ofNat (k + 1))), (.int (Int32.ofNat mn))])) _
          refine XS.icmpYes X892.here hx rfl (pc0 := 22) (pc' := 54) rfl (own_hb hby d10_22) rfl (flt (fun q => hc22_893 ((own_ltN (by omega) (by omega)).mp q))).2.1 (by decide) (by decide) ?_
          show Steps p.tables e below (T892.setTop (mkF m 54 #[.val (.ref o)] [])) _
          refine XS.aloadN X892.here hx rfl (own_hb hby d10_54) rfl rfl ?_
          exact kt
        obtain ⟨T984, X984, e984, st984⟩ := getF X892 hx hZ hown (host := "") (Or.inl (hw _ (List.mem_of_getElem? (i := 64) rfl))) Via.refl e892 p869_10 (g := (mkF m 55 #[.val (.ref o)] [(.ref o)])) rfl rfl (own_hb hby d10_55)
        refine own_Go.of (S' := (T984.setTop (mkF m 58 #[.val (.ref o)] [(.ref rn)]))) st984 ?_
        refine own_Go.of (S' := (T984.setTop (mkF m 59 #[.val (.ref o)] [(.ref o), (.ref rn)]))) (fun t kt => ?_) ?_
        · show Steps p.tables e below (T984.setTop (mkF m 58 #[.val (.ref o)] [(.ref rn)])) _
          refine XS.aloadN X984.here hx rfl (own_hb hby d10_58) rfl rfl ?_
          exact kt
        obtain ⟨T985, X985, e985, st985⟩ := getF X984 hx hZ hown (host := "") (Or.inl (hw _ (List.mem_of_getElem? (i := 30) rfl))) Via.refl e984 p869_6 (g := (mkF m 59 #[.val (.ref o)] [(.ref o), (.ref rn)])) rfl rfl (own_hb hby d10_59)
        refine own_Go.of (S' := (T985.setTop (mkF m 62 #[.val (.ref o)] [(.int (Int32.ofNat (k + 1))), (.ref rn)]))) st985 ?_
        refine own_Go.of (S' := (T985.setTop (mkF m 65 #[.val (.ref o)] [(.int (1 : Int32)), (.int (Int32.ofNat k)), (.ref rn)]))) (fun t kt => ?_) ?_
        · show Steps p.tables e below (T985.setTop (mkF m 62 #[.val (.ref o)] [(.int (Int32.ofNat (k + 1))), (.ref rn)])) _
          refine XS.iconst X985.here hx rfl (own_hb hby d10_62) ?_
          show Steps p.tables e below (T985.setTop (mkF m 63 #[.val (.ref o)] [(.int (1 : Int32)), (.int (Int32.ofNat (k + 1))), (.ref rn)])) _
          refine XS.isub X985.here hx rfl (own_hb hby d10_63) rfl ?_
          show Steps p.tables e below (T985.setTop (mkF m 64 #[.val (.ref o)] [(.int ((Int32.ofNat (k + 1)) - (1 : Int32))), (.ref rn)])) _
          rw [show Int32.ofNat (k + 1) - (1 : Int32) = Int32.ofNat k from own_subN (a := k + 1) (b := 1) (by omega)]
          show Steps p.tables e below (T985.setTop (mkF m 64 #[.val (.ref o)] [(.int (Int32.ofNat k)), (.ref rn)])) _
          refine XS.iconst X985.here hx rfl (own_hb hby d10_64) ?_
          exact kt
        obtain ⟨cl986, Ar986, hin986, ub986⟩ := own_Ar.put (j := (Int32.ofNat k)) (k := k) f887 ⟨rfl, by omega⟩
        obtain ⟨T986, h986, X986, e986, W986, st986⟩ := stZ X985 hx hZ e985 Ar986 (j := (Int32.ofNat k)) hin986 (g := (mkF m 65 #[.val (.ref o)] [(.int (1 : Int32)), (.int (Int32.ofNat k)), (.ref rn)])) rfl rfl (own_hb hby d10_65)
        refine own_Go.of (S' := (T986.setTop (mkF m 66 #[.val (.ref o)] []))) st986 ?_
        have kx987 : own_Kx h0 h986 x := kx882.wr W986 hn10
        have f988 : own_Lt h986 x := f883.wr W986
        have f989 : Exa Z h986 o "com/example/quayside/quayside/Row" := p869_3.wr W986
        have f990 : own_Ar Z h986 rs .int cap (own_I gs) := f885.other W986 hn8
        have f991 : own_Ar Z h986 re .int cap (own_I ge) := f886.other W986 hn9
        have f992 : Fld Z h986 o "com/example/quayside/quayside/Row" "starts" "[I" (.ref rs'869) := p869_4.other W986 (Or.inl hn7)
        have f993 : Fld Z h986 o "com/example/quayside/quayside/Row" "ends" "[I" (.ref re'869) := p869_5.other W986 (Or.inl hn7)
        have f994 : Fld Z h986 o "com/example/quayside/quayside/Row" "size" "I" (.int (Int32.ofNat (k + 1))) := p869_6.other W986 (Or.inl hn7)
        have f995 : Fld Z h986 o "com/example/quayside/quayside/Row" "reach" "I" (.int (own_maxI r (0 : Int32))) := p869_7.other W986 (Or.inl hn7)
        have f996 : Fld Z h986 o "com/example/quayside/quayside/Row" "text" "Z" (.int (0 : Int32)) := p869_8.other W986 (Or.inl hn7)
        have f997 : Fld Z h986 o "com/example/quayside/quayside/Row" "bytes" "[B" (.ref bs) := p869_9.other W986 (Or.inl hn7)
        have f998 : Fld Z h986 o "com/example/quayside/quayside/Row" "nulls" "[Z" (.ref rn) := p869_10.other W986 (Or.inl hn7)
        have f999 : Fld Z h986 o "com/example/quayside/quayside/Row" "nullCount" "I" (.int (Int32.ofNat c')) := p869_11.other W986 (Or.inl hn7)
        have f1000 : own_Ar Z h986 rs'869 .int (2 * k) (own_I (own_set (own_cpy gs cap) k (Int32.ofNat 0))) := p869_12.other W986 (Ne.symm ne875)
        have f1001 : own_Ar Z h986 re'869 .int (2 * k) (own_I (own_set (own_cpy ge cap) k (0 : Int32))) := p869_13.other W986 (Ne.symm ne881)
        have z1002 : n0 ≤ h986.size := Nat.le_trans z888 (Keep.of_wr W986).1
        have f1003 : own_Ar Z h986 rn .boolean mn (own_I (own_set g k (nar .boolean (1 : Int32)))) := by rw [← own_upI]; exact ub986 (fits_nar_bool _) W986
        have N986 := Fr.snoc X986 N869 hg4
        refine own_Go.of (S' := (T986.setTop (mkF m 68 #[.val (.ref o)] [(.ref o), (.ref o)]))) (fun t kt => ?_) ?_
        · show Steps p.tables e below (T986.setTop (mkF m 66 #[.val (.ref o)] [])) _
          refine XS.aloadN X986.here hx rfl (own_hb hby d10_66) rfl rfl ?_
          show Steps p.tables e below (T986.setTop (mkF m 67 #[.val (.ref o)] [(.ref o)])) _
          refine XS.dup X986.here hx rfl (own_hb hby d10_67) rfl rfl ?_
          exact kt
        obtain ⟨T1004, X1004, e1004, st1004⟩ := getF X986 hx hZ hown (host := "") (Or.inl (hw _ (List.mem_of_getElem? (i := 51) rfl))) Via.refl e986 f999 (g := (mkF m 68 #[.val (.ref o)] [(.ref o), (.ref o)])) rfl rfl (own_hb hby d10_68)
        refine own_Go.of (S' := (T1004.setTop (mkF m 71 #[.val (.ref o)] [(.int (Int32.ofNat c')), (.ref o)]))) st1004 ?_
        refine own_Go.of (S' := (T1004.setTop (mkF m 73 #[.val (.ref o)] [(.int (Int32.ofNat (c' + 1))), (.ref o)]))) (fun t kt => ?_) ?_
        · show Steps p.tables e below (T1004.setTop (mkF m 71 #[.val (.ref o)] [(.int (Int32.ofNat c')), (.ref o)])) _
          refine XS.iconst X1004.here hx rfl (own_hb hby d10_71) ?_
          show Steps p.tables e below (T1004.setTop (mkF m 72 #[.val (.ref o)] [(.int (1 : Int32)), (.int (Int32.ofNat c')), (.ref o)])) _
          refine XS.iadd X1004.here hx rfl (own_hb hby d10_72) rfl ?_
          show Steps p.tables e below (T1004.setTop (mkF m 73 #[.val (.ref o)] [(.int ((Int32.ofNat c') + (1 : Int32))), (.ref o)])) _
          rw [show Int32.ofNat c' + (1 : Int32) = Int32.ofNat (c' + 1) from own_addN c' 1]
          exact kt
        obtain ⟨T1005, h1005, X1005, e1005, W1005, st1005⟩ := putF X1004 hx hZ hown (host := "") (Or.inl (hw _ (List.mem_of_getElem? (i := 51) rfl))) Via.refl e1004 f999 f989 (Or.inl (hw _ (List.mem_of_getElem? (i := 52) rfl))) (hw _ (List.mem_of_getElem? (i := 2) rfl)) (ty := .int) (by decide) rfl rfl (g := (mkF m 73 #[.val (.ref o)] [(.int (Int32.ofNat (c' + 1))), (.ref o)])) rfl rfl (own_hb hby d10_73)
        refine own_Go.of (S' := (T1005.setTop (mkF m 76 #[.val (.ref o)] []))) st1005 ?_
        have kx1006 : own_Kx h0 h1005 x := kx987.wr W1005 hn4
        have f1007 : own_Lt h1005 x := f988.wr W1005
        have f1008 : Exa Z h1005 o "com/example/quayside/quayside/Row" := f989.wr W1005
        have f1009 : own_Ar Z h1005 rs .int cap (own_I gs) := f990.other W1005 (Ne.symm hn1)
        have f1010 : own_Ar Z h1005 re .int cap (own_I ge) := f991.other W1005 (Ne.symm hn2)
        have f1011 : own_Ar Z h1005 rn .boolean mn (own_I (own_set g k (nar .boolean (1 : Int32)))) := f1003.other W1005 (Ne.symm hn7)
        have f1012 : Fld Z h1005 o "com/example/quayside/quayside/Row" "starts" "[I" (.ref rs'869) := f992.other W1005 (Or.inr (slot_ne (Or.inl (hw _ (List.mem_of_getElem? (i := 15) rfl))) (Or.inl (hw _ (List.mem_of_getElem? (i := 52) rfl))) (by decide) (t := (.array .int)) (t' := .int) (by decide) (by decide)))
        have f1013 : Fld Z h1005 o "com/example/quayside/quayside/Row" "ends" "[I" (.ref re'869) := f993.other W1005 (Or.inr (slot_ne (Or.inl (hw _ (List.mem_of_getElem? (i := 17) rfl))) (Or.inl (hw _ (List.mem_of_getElem? (i := 52) rfl))) (by decide) (t := (.array .int)) (t' := .int) (by decide) (by decide)))
        have f1014 : Fld Z h1005 o "com/example/quayside/quayside/Row" "size" "I" (.int (Int32.ofNat (k + 1))) := f994.other W1005 (Or.inr (slot_ne (Or.inl (hw _ (List.mem_of_getElem? (i := 31) rfl))) (Or.inl (hw _ (List.mem_of_getElem? (i := 52) rfl))) (by decide) (t := .int) (t' := .int) (by decide) (by decide)))
        have f1015 : Fld Z h1005 o "com/example/quayside/quayside/Row" "reach" "I" (.int (own_maxI r (0 : Int32))) := f995.other W1005 (Or.inr (slot_ne (Or.inl (hw _ (List.mem_of_getElem? (i := 33) rfl))) (Or.inl (hw _ (List.mem_of_getElem? (i := 52) rfl))) (by decide) (t := .int) (t' := .int) (by decide) (by decide)))
        have f1016 : Fld Z h1005 o "com/example/quayside/quayside/Row" "text" "Z" (.int (0 : Int32)) := f996.other W1005 (Or.inr (slot_ne (Or.inl (hw _ (List.mem_of_getElem? (i := 39) rfl))) (Or.inl (hw _ (List.mem_of_getElem? (i := 52) rfl))) (by decide) (t := .boolean) (t' := .int) (by decide) (by decide)))
        have f1017 : Fld Z h1005 o "com/example/quayside/quayside/Row" "bytes" "[B" (.ref bs) := f997.other W1005 (Or.inr (slot_ne (Or.inl (hw _ (List.mem_of_getElem? (i := 12) rfl))) (Or.inl (hw _ (List.mem_of_getElem? (i := 52) rfl))) (by decide) (t := (.array .byte)) (t' := .int) (by decide) (by decide)))
        have f1018 : Fld Z h1005 o "com/example/quayside/quayside/Row" "nulls" "[Z" (.ref rn) := f998.other W1005 (Or.inr (slot_ne (Or.inl (hw _ (List.mem_of_getElem? (i := 65) rfl))) (Or.inl (hw _ (List.mem_of_getElem? (i := 52) rfl))) (by decide) (t := (.array .boolean)) (t' := .int) (by decide) (by decide)))
        have f1019 : own_Ar Z h1005 rs'869 .int (2 * k) (own_I (own_set (own_cpy gs cap) k (Int32.ofNat 0))) := f1000.other W1005 (Ne.symm ne872)
        have f1020 : own_Ar Z h1005 re'869 .int (2 * k) (own_I (own_set (own_cpy ge cap) k (0 : Int32))) := f1001.other W1005 (Ne.symm ne878)
        have z1021 : n0 ≤ h1005.size := Nat.le_trans z1002 (Keep.of_wr W1005).1
        have f1022 : Fld Z h1005 o "com/example/quayside/quayside/Row" "nullCount" "I" (.int (Int32.ofNat (c' + 1))) := f999.same W1005
        have N1005 := Fr.snoc X1005 N986 hg1
        exact own_retV X1005 hx hlk hret (own_hb hby d10_76) e1005 ⟨(2 * k), rfl, N1005, kx1006, ⟨rs'869, re'869, bs, (own_set (own_cpy gs cap) k (Int32.ofNat 0)), (own_set (own_cpy ge cap) k (0 : Int32)), (0 : Int32), (own_maxI r (0 : Int32)), f1008, f1012, f1013, f1014, f1015, f1016, f1017, f1019, f1020, hg1, gx870, gx876, ne872, ne878, p869_2, hn4, ne871, ne877, (by omega), (by omega), own_s01 hf01 (Or.inr rfl), Or.inr ⟨rn, mn, (c' + 1), (own_set g k (nar .boolean (1 : Int32))), f1018, f1022, f1011, hg4, hn7, (Ne.symm ne875), (Ne.symm ne881), hn10, (by omega), (by omega), (by omega), own_nB (by omega) hq1, (fun i _ _ => by omega), (fun q => by omega)⟩⟩⟩ (by decide) (by decide)
def Q_rm5ps (Z : State) (x : Addr) (o : Addr) (i : Nat) (j : Int32) (k : Nat) (cap : Nat) (f : Nat → Int32) (h0 : Heap) (n0 : Nat) (v : Option Value) (h : Heap) (L : List Loc) : Prop := v = none ∧ Fr n0 L ∧ own_Kx h0 h x ∧ (own_Row Z h n0 x o (k + 1) cap (own_set f k 0))
set_option maxRecDepth 65536 in
set_option maxHeartbeats 40000000 in
theorem rm5ps (l : Launch) (Z : State) (a0 : Array Value) (hw : ∀ d ∈ tables_1, d.before a0 Z = true) (ws : List Jvm.Cond) (x : Addr) (o : Addr) (i : Nat) (j : Int32) (k : Nat) (cap : Nat) (f : Nat → Int32) (h0 : Heap) (n0 : Nat) (Z0 : n0 ≤ h0.size) (row : own_Row Z h0 n0 x o k cap f) (hk : k < cap) (hi : i < 2 ^ 31) (hij : ¬ j < Int32.ofNat i) (pr4 : own_Lt h0 x) :
    own_Met l Z h0 (⟨"com/example/quayside/quayside/Row", "add", "(II)V"⟩ : MethodName) prog_62_method_3_code 3 none ws ({ frames := 1, cells := 0, slots := 0, locals := 14 } : Room) #[(.ref o), (.int (Int32.ofNat i)), (.int j)] (Q_rm5ps Z x o i j k cap f h0 n0) := by
  refine own_enter (plainFor_of_name pn_5) ?_
  intro p e s m below meth c T0 X0 hx hby hml hret hlk hown hnm hZ e0
  have N0 := Fr.nil n0
  have kx0 : own_Kx h0 h0 x := own_Kx.refl
  rw [show entryFrame m #[(.ref o), (.int (Int32.ofNat i)), (.int j)] 3 = (mkF m 0 #[.val (.ref o), .val (.int (Int32.ofNat i)), .val (.int j)] []) from by first | (simp [entryFrame, mkF, argsToLocals, Value.category]; done) | rfl]
  obtain ⟨rs, re, bs, gs, ge, tx, r, hE, hF1, hF2, hF3, hF4, hF5, hF6, hA1, hA2, hg1, hg2, hg3, hn1, hn2, hn3, hn4, hn5, hn6, hkc, hcap, hf01, hN⟩ := row
  rcases hN with ⟨hm1, hm2, hf0⟩ | ⟨rn, mn, c', g, hm1, hm2, hA3, hg4, hn7, hn8, hn9, hn10, hmn, hmc, hck, hq1, hq2, hq3⟩
  · skip
    refine own_Go.of (S' := (T0.setTop (mkF m 25 #[.val (.ref o), .val (.int (Int32.ofNat i)), .val (.int j)] [(.ref o)]))) (fun t kt => ?_) ?_
    · show Steps p.tables e below (T0.setTop (mkF m 0 #[.val (.ref o), .val (.int (Int32.ofNat i)), .val (.int j)] [])) _
      refine XS.iloadN X0.here hx rfl (own_hb hby d5_0) rfl ?_
      show Steps p.tables e below (T0.setTop (mkF m 1 #[.val (.ref o), .val (.int (Int32.ofNat i)), .val (.int j)] [(.int (Int32.ofNat i))])) _
      refine XS.ifNo X0.here hx rfl (own_hb hby d5_1) rfl ((if0 _ _).trans (flt (fun q => by have h2 := (own_ltN (b := 0) hi (by decide)).mp q; omega)).1) ?_
      show Steps p.tables e below (T0.setTop (mkF m 4 #[.val (.ref o), .val (.int (Int32.ofNat i)), .val (.int j)] [])) _
      refine XS.iloadN X0.here hx rfl (own_hb hby d5_4) rfl ?_
      show Steps p.tables e below (T0.setTop (mkF m 5 #[.val (.ref o), .val (.int (Int32.ofNat i)), .val (.int j)] [(.int j)])) _
      refine XS.iloadN X0.here hx rfl (own_hb hby d5_5) rfl ?_
      show Steps p.tables e below (T0.setTop (mkF m 6 #[.val (.ref o), .val (.int (Int32.ofNat i)), .val (.int j)] [(.int (Int32.ofNat i)), (.int j)])) _
      refine XS.icmpYes X0.here hx rfl (pc0 := 6) (pc' := 24) rfl (own_hb hby d5_6) rfl (flt hij).2.1 (by decide) (by decide) ?_
      show Steps p.tables e below (T0.setTop (mkF m 24 #[.val (.ref o), .val (.int (Int32.ofNat i)), .val (.int j)] [])) _
      refine XS.aloadN X0.here hx rfl (own_hb hby d5_24) rfl rfl ?_
      exact kt
    obtain ⟨T1023, X1023, e1023, st1023⟩ := getF X0 hx hZ hown (host := "") (Or.inl (hw _ (List.mem_of_getElem? (i := 30) rfl))) Via.refl e0 hF3 (g := (mkF m 25 #[.val (.ref o), .val (.int (Int32.ofNat i)), .val (.int j)] [(.ref o)])) rfl rfl (own_hb hby d5_25)
    refine own_Go.of (S' := (T1023.setTop (mkF m 28 #[.val (.ref o), .val (.int (Int32.ofNat i)), .val (.int j)] [(.int (Int32.ofNat k))]))) st1023 ?_
    refine own_Go.of (S' := (T1023.setTop (mkF m 29 #[.val (.ref o), .val (.int (Int32.ofNat i)), .val (.int j)] [(.ref o), (.int (Int32.ofNat k))]))) (fun t kt => ?_) ?_
    · show Steps p.tables e below (T1023.setTop (mkF m 28 #[.val (.ref o), .val (.int (Int32.ofNat i)), .val (.int j)] [(.int (Int32.ofNat k))])) _
      refine XS.aloadN X1023.here hx rfl (own_hb hby d5_28) rfl rfl ?_
      exact kt
    obtain ⟨T1024, X1024, e1024, st1024⟩ := getF X1023 hx hZ hown (host := "") (Or.inl (hw _ (List.mem_of_getElem? (i := 14) rfl))) Via.refl e1023 hF1 (g := (mkF m 29 #[.val (.ref o), .val (.int (Int32.ofNat i)), .val (.int j)] [(.ref o), (.int (Int32.ofNat k))])) rfl rfl (own_hb hby d5_29)
    refine own_Go.of (S' := (T1024.setTop (mkF m 32 #[.val (.ref o), .val (.int (Int32.ofNat i)), .val (.int j)] [(.ref rs), (.int (Int32.ofNat k))]))) st1024 ?_
    obtain ⟨cl1025, Ar1025, hln1025⟩ := own_Ar.len hA1
    refine own_Go.of (S' := (T1024.setTop (mkF m 71 #[.val (.ref o), .val (.int (Int32.ofNat i)), .val (.int j)] [(.ref o)]))) (fun t kt => ?_) ?_
    · show Steps p.tables e below (T1024.setTop (mkF m 32 #[.val (.ref o), .val (.int (Int32.ofNat i)), .val (.int j)] [(.ref rs), (.int (Int32.ofNat k))])) _
      refine X1024.arraylength hx (by rw [e1024]; exact Ar1025.1) (State.isArrayOf_alike hZ.alike Ar1025.2.1) (g := (mkF m 32 #[.val (.ref o), .val (.int (Int32.ofNat i)), .val (.int j)] [(.ref rs), (.int (Int32.ofNat k))])) rfl rfl (own_hb hby d5_32) _ ?_
      rw [hln1025]
      show Steps p.tables e below (T1024.setTop (mkF m 33 #[.val (.ref o), .val (.int (Int32.ofNat i)), .val (.int j)] [(.int (Int32.ofNat cap)), (.int (Int32.ofNat k))])) _
      refine XS.icmpYes X1024.here hx rfl (pc0 := 33) (pc' := 70) rfl (own_hb hby d5_33) rfl (feq (fun q => by have h2 := (own_eqN (by omega) (by omega)).mp q; omega)).2 (by decide) (by decide) ?_
      show Steps p.tables e below (T1024.setTop (mkF m 70 #[.val (.ref o), .val (.int (Int32.ofNat i)), .val (.int j)] [])) _
      refine XS.aloadN X1024.here hx rfl (own_hb hby d5_70) rfl rfl ?_
      exact kt
    obtain ⟨T1026, X1026, e1026, st1026⟩ := getF X1024 hx hZ hown (host := "") (Or.inl (hw _ (List.mem_of_getElem? (i := 14) rfl))) Via.refl e1024 hF1 (g := (mkF m 71 #[.val (.ref o), .val (.int (Int32.ofNat i)), .val (.int j)] [(.ref o)])) rfl rfl (own_hb hby d5_71)
    refine own_Go.of (S' := (T1026.setTop (mkF m 74 #[.val (.ref o), .val (.int (Int32.ofNat i)), .val (.int j)] [(.ref rs)]))) st1026 ?_
    refine own_Go.of (S' := (T1026.setTop (mkF m 75 #[.val (.ref o), .val (.int (Int32.ofNat i)), .val (.int j)] [(.ref o), (.ref rs)]))) (fun t kt => ?_) ?_
    · show Steps p.tables e below (T1026.setTop (mkF m 74 #[.val (.ref o), .val (.int (Int32.ofNat i)), .val (.int j)] [(.ref rs)])) _
      refine XS.aloadN X1026.here hx rfl (own_hb hby d5_74) rfl rfl ?_
      exact kt
    obtain ⟨T1027, X1027, e1027, st1027⟩ := getF X1026 hx hZ hown (host := "") (Or.inl (hw _ (List.mem_of_getElem? (i := 30) rfl))) Via.refl e1026 hF3 (g := (mkF m 75 #[.val (.ref o), .val (.int (Int32.ofNat i)), .val (.int j)] [(.ref o), (.ref rs)])) rfl rfl (own_hb hby d5_75)
    refine own_Go.of (S' := (T1027.setTop (mkF m 78 #[.val (.ref o), .val (.int (Int32.ofNat i)), .val (.int j)] [(.int (Int32.ofNat k)), (.ref rs)]))) st1027 ?_
    refine own_Go.of (S' := (T1027.setTop (mkF m 79 #[.val (.ref o), .val (.int (Int32.ofNat i)), .val (.int j)] [(.int (Int32.ofNat i)), (.int (Int32.ofNat k)), (.ref rs)]))) (fun t kt => ?_) ?_
    · show Steps p.tables e below (T1027.setTop (mkF m 78 #[.val (.ref o), .val (.int (Int32.ofNat i)), .val (.int j)] [(.int (Int32.ofNat k)), (.ref rs)])) _
      refine XS.iloadN X1027.here hx rfl (own_hb hby d5_78) rfl ?_
      exact kt
    obtain ⟨cl1028, Ar1028, hin1028, ub1028⟩ := own_Ar.put (j := (Int32.ofNat k)) (k := k) hA1 ⟨rfl, by omega⟩
    obtain ⟨T1028, h1028, X1028, e1028, W1028, st1028⟩ := stI X1027 hx hZ e1027 Ar1028 (j := (Int32.ofNat k)) hin1028 (g := (mkF m 79 #[.val (.ref o), .val (.int (Int32.ofNat i)), .val (.int j)] [(.int (Int32.ofNat i)), (.int (Int32.ofNat k)), (.ref rs)])) rfl rfl (own_hb hby d5_79)
    refine own_Go.of (S' := (T1028.setTop (mkF m 80 #[.val (.ref o), .val (.int (Int32.ofNat i)), .val (.int j)] []))) st1028 ?_
    have kx1029 : own_Kx h0 h1028 x := kx0.wr W1028 hn5
    have f1030 : own_Lt h1028 x := pr4.wr W1028
    have f1031 : Exa Z h1028 o "com/example/quayside/quayside/Row" := hE.wr W1028
    have f1032 : Fld Z h1028 o "com/example/quayside/quayside/Row" "starts" "[I" (.ref rs) := hF1.other W1028 (Or.inl hn1)
    have f1033 : Fld Z h1028 o "com/example/quayside/quayside/Row" "ends" "[I" (.ref re) := hF2.other W1028 (Or.inl hn1)
    have f1034 : Fld Z h1028 o "com/example/quayside/quayside/Row" "size" "I" (.int (Int32.ofNat k)) := hF3.other W1028 (Or.inl hn1)
    have f1035 : Fld Z h1028 o "com/example/quayside/quayside/Row" "reach" "I" (.int r) := hF4.other W1028 (Or.inl hn1)
    have f1036 : Fld Z h1028 o "com/example/quayside/quayside/Row" "text" "Z" (.int tx) := hF5.other W1028 (Or.inl hn1)
    have f1037 : Fld Z h1028 o "com/example/quayside/quayside/Row" "bytes" "[B" (.ref bs) := hF6.other W1028 (Or.inl hn1)
    have f1038 : own_Ar Z h1028 re .int cap (own_I ge) := hA2.other W1028 (Ne.symm hn3)
    have f1039 : Fld Z h1028 o "com/example/quayside/quayside/Row" "nulls" "[Z" .null := hm1.other W1028 (Or.inl hn1)
    have f1040 : Fld Z h1028 o "com/example/quayside/quayside/Row" "nullCount" "I" (.int (0 : Int32)) := hm2.other W1028 (Or.inl hn1)
    have z1041 : n0 ≤ h1028.size := Nat.le_trans Z0 (Keep.of_wr W1028).1
    have f1042 : own_Ar Z h1028 rs .int cap (own_I (own_set gs k (Int32.ofNat i))) := by rw [← own_upI]; exact ub1028 rfl W1028
    have N1028 := Fr.snoc X1028 N0 hg2
    refine own_Go.of (S' := (T1028.setTop (mkF m 81 #[.val (.ref o), .val (.int (Int32.ofNat i)), .val (.int j)] [(.ref o)]))) (fun t kt => ?_) ?_
    · show Steps p.tables e below (T1028.setTop (mkF m 80 #[.val (.ref o), .val (.int (Int32.ofNat i)), .val (.int j)] [])) _
      refine XS.aloadN X1028.here hx rfl (own_hb hby d5_80) rfl rfl ?_
      exact kt
    obtain ⟨T1043, X1043, e1043, st1043⟩ := getF X1028 hx hZ hown (host := "") (Or.inl (hw _ (List.mem_of_getElem? (i := 16) rfl))) Via.refl e1028 f1033 (g := (mkF m 81 #[.val (.ref o), .val (.int (Int32.ofNat i)), .val (.int j)] [(.ref o)])) rfl rfl (own_hb hby d5_81)
    refine own_Go.of (S' := (T1043.setTop (mkF m 84 #[.val (.ref o), .val (.int (Int32.ofNat i)), .val (.int j)] [(.ref re)]))) st1043 ?_
    refine own_Go.of (S' := (T1043.setTop (mkF m 85 #[.val (.ref o), .val (.int (Int32.ofNat i)), .val (.int j)] [(.ref o), (.ref re)]))) (fun t kt => ?_) ?_
    · show Steps p.tables e below (T1043.setTop (mkF m 84 #[.val (.ref o), .val (.int (Int32.ofNat i)), .val (.int j)] [(.ref re)])) _
      refine XS.aloadN X1043.here hx rfl (own_hb hby d5_84) rfl rfl ?_
      exact kt
    obtain ⟨T1044, X1044, e1044, st1044⟩ := getF X1043 hx hZ hown (host := "") (Or.inl (hw _ (List.mem_of_getElem? (i := 30) rfl))) Via.refl e1043 f1034 (g := (mkF m 85 #[.val (.ref o), .val (.int (Int32.ofNat i)), .val (.int j)] [(.ref o), (.ref re)])) rfl rfl (own_hb hby d5_85)
    refine own_Go.of (S' := (T1044.setTop (mkF m 88 #[.val (.ref o), .val (.int (Int32.ofNat i)), .val (.int j)] [(.int (Int32.ofNat k)), (.ref re)]))) st1044 ?_
    refine own_Go.of (S' := (T1044.setTop (mkF m 89 #[.val (.ref o), .val (.int (Int32.ofNat i)), .val (.int j)] [(.int j), (.int (Int32.ofNat k)), (.ref re)]))) (fun t kt => ?_) ?_
    · show Steps p.tables e below (T1044.setTop (mkF m 88 #[.val (.ref o), .val (.int (Int32.ofNat i)), .val (.int j)] [(.int (Int32.ofNat k)), (.ref re)])) _
      refine XS.iloadN X1044.here hx rfl (own_hb hby d5_88) rfl ?_
      exact kt
    obtain ⟨cl1045, Ar1045, hin1045, ub1045⟩ := own_Ar.put (j := (Int32.ofNat k)) (k := k) f1038 ⟨rfl, by omega⟩
    obtain ⟨T1045, h1045, X1045, e1045, W1045, st1045⟩ := stI X1044 hx hZ e1044 Ar1045 (j := (Int32.ofNat k)) hin1045 (g := (mkF m 89 #[.val (.ref o), .val (.int (Int32.ofNat i)), .val (.int j)] [(.int j), (.int (Int32.ofNat k)), (.ref re)])) rfl rfl (own_hb hby d5_89)
    refine own_Go.of (S' := (T1045.setTop (mkF m 90 #[.val (.ref o), .val (.int (Int32.ofNat i)), .val (.int j)] []))) st1045 ?_
    have kx1046 : own_Kx h0 h1045 x := kx1029.wr W1045 hn6
    have f1047 : own_Lt h1045 x := f1030.wr W1045
    have f1048 : Exa Z h1045 o "com/example/quayside/quayside/Row" := f1031.wr W1045
    have f1049 : Fld Z h1045 o "com/example/quayside/quayside/Row" "starts" "[I" (.ref rs) := f1032.other W1045 (Or.inl hn2)
    have f1050 : Fld Z h1045 o "com/example/quayside/quayside/Row" "ends" "[I" (.ref re) := f1033.other W1045 (Or.inl hn2)
    have f1051 : Fld Z h1045 o "com/example/quayside/quayside/Row" "size" "I" (.int (Int32.ofNat k)) := f1034.other W1045 (Or.inl hn2)
    have f1052 : Fld Z h1045 o "com/example/quayside/quayside/Row" "reach" "I" (.int r) := f1035.other W1045 (Or.inl hn2)
    have f1053 : Fld Z h1045 o "com/example/quayside/quayside/Row" "text" "Z" (.int tx) := f1036.other W1045 (Or.inl hn2)
    have f1054 : Fld Z h1045 o "com/example/quayside/quayside/Row" "bytes" "[B" (.ref bs) := f1037.other W1045 (Or.inl hn2)
    have f1055 : own_Ar Z h1045 rs .int cap (own_I (own_set gs k (Int32.ofNat i))) := f1042.other W1045 hn3
    have f1056 : Fld Z h1045 o "com/example/quayside/quayside/Row" "nulls" "[Z" .null := f1039.other W1045 (Or.inl hn2)
    have f1057 : Fld Z h1045 o "com/example/quayside/quayside/Row" "nullCount" "I" (.int (0 : Int32)) := f1040.other W1045 (Or.inl hn2)
    have z1058 : n0 ≤ h1045.size := Nat.le_trans z1041 (Keep.of_wr W1045).1
    have f1059 : own_Ar Z h1045 re .int cap (own_I (own_set ge k j)) := by rw [← own_upI]; exact ub1045 rfl W1045
    have N1045 := Fr.snoc X1045 N1028 hg3
    refine own_Go.of (S' := (T1045.setTop (mkF m 92 #[.val (.ref o), .val (.int (Int32.ofNat i)), .val (.int j)] [(.ref o), (.ref o)]))) (fun t kt => ?_) ?_
    · show Steps p.tables e below (T1045.setTop (mkF m 90 #[.val (.ref o), .val (.int (Int32.ofNat i)), .val (.int j)] [])) _
      refine XS.aloadN X1045.here hx rfl (own_hb hby d5_90) rfl rfl ?_
      show Steps p.tables e below (T1045.setTop (mkF m 91 #[.val (.ref o), .val (.int (Int32.ofNat i)), .val (.int j)] [(.ref o)])) _
      refine XS.dup X1045.here hx rfl (own_hb hby d5_91) rfl rfl ?_
      exact kt
    obtain ⟨T1060, X1060, e1060, st1060⟩ := getF X1045 hx hZ hown (host := "") (Or.inl (hw _ (List.mem_of_getElem? (i := 30) rfl))) Via.refl e1045 f1051 (g := (mkF m 92 #[.val (.ref o), .val (.int (Int32.ofNat i)), .val (.int j)] [(.ref o), (.ref o)])) rfl rfl (own_hb hby d5_92)
    refine own_Go.of (S' := (T1060.setTop (mkF m 95 #[.val (.ref o), .val (.int (Int32.ofNat i)), .val (.int j)] [(.int (Int32.ofNat k)), (.ref o)]))) st1060 ?_
    refine own_Go.of (S' := (T1060.setTop (mkF m 97 #[.val (.ref o), .val (.int (Int32.ofNat i)), .val (.int j)] [(.int (Int32.ofNat (k + 1))), (.ref o)]))) (fun t kt => ?_) ?_
    · show Steps p.tables e below (T1060.setTop (mkF m 95 #[.val (.ref o), .val (.int (Int32.ofNat i)), .val (.int j)] [(.int (Int32.ofNat k)), (.ref o)])) _
      refine XS.iconst X1060.here hx rfl (own_hb hby d5_95) ?_
      show Steps p.tables e below (T1060.setTop (mkF m 96 #[.val (.ref o), .val (.int (Int32.ofNat i)), .val (.int j)] [(.int (1 : Int32)), (.int (Int32.ofNat k)), (.ref o)])) _
      refine XS.iadd X1060.here hx rfl (own_hb hby d5_96) rfl ?_
      show Steps p.tables e below (T1060.setTop (mkF m 97 #[.val (.ref o), .val (.int (Int32.ofNat i)), .val (.int j)] [(.int ((Int32.ofNat k) + (1 : Int32))), (.ref o)])) _
      rw [show Int32.ofNat k + (1 : Int32) = Int32.ofNat (k + 1) from own_addN k 1]
      exact kt
    obtain ⟨T1061, h1061, X1061, e1061, W1061, st1061⟩ := putF X1060 hx hZ hown (host := "") (Or.inl (hw _ (List.mem_of_getElem? (i := 30) rfl))) Via.refl e1060 f1051 f1048 (Or.inl (hw _ (List.mem_of_getElem? (i := 31) rfl))) (hw _ (List.mem_of_getElem? (i := 2) rfl)) (ty := .int) (by decide) rfl rfl (g := (mkF m 97 #[.val (.ref o), .val (.int (Int32.ofNat i)), .val (.int j)] [(.int (Int32.ofNat (k + 1))), (.ref o)])) rfl rfl (own_hb hby d5_97)
    refine own_Go.of (S' := (T1061.setTop (mkF m 100 #[.val (.ref o), .val (.int (Int32.ofNat i)), .val (.int j)] []))) st1061 ?_
    have kx1062 : own_Kx h0 h1061 x := kx1046.wr W1061 hn4
    have f1063 : own_Lt h1061 x := f1047.wr W1061
    have f1064 : Exa Z h1061 o "com/example/quayside/quayside/Row" := f1048.wr W1061
    have f1065 : Fld Z h1061 o "com/example/quayside/quayside/Row" "starts" "[I" (.ref rs) := f1049.other W1061 (Or.inr (slot_ne (Or.inl (hw _ (List.mem_of_getElem? (i := 15) rfl))) (Or.inl (hw _ (List.mem_of_getElem? (i := 31) rfl))) (by decide) (t := (.array .int)) (t' := .int) (by decide) (by decide)))
    have f1066 : Fld Z h1061 o "com/example/quayside/quayside/Row" "ends" "[I" (.ref re) := f1050.other W1061 (Or.inr (slot_ne (Or.inl (hw _ (List.mem_of_getElem? (i := 17) rfl))) (Or.inl (hw _ (List.mem_of_getElem? (i := 31) rfl))) (by decide) (t := (.array .int)) (t' := .int) (by decide) (by decide)))
    have f1067 : Fld Z h1061 o "com/example/quayside/quayside/Row" "reach" "I" (.int r) := f1052.other W1061 (Or.inr (slot_ne (Or.inl (hw _ (List.mem_of_getElem? (i := 33) rfl))) (Or.inl (hw _ (List.mem_of_getElem? (i := 31) rfl))) (by decide) (t := .int) (t' := .int) (by decide) (by decide)))
    have f1068 : Fld Z h1061 o "com/example/quayside/quayside/Row" "text" "Z" (.int tx) := f1053.other W1061 (Or.inr (slot_ne (Or.inl (hw _ (List.mem_of_getElem? (i := 39) rfl))) (Or.inl (hw _ (List.mem_of_getElem? (i := 31) rfl))) (by decide) (t := .boolean) (t' := .int) (by decide) (by decide)))
    have f1069 : Fld Z h1061 o "com/example/quayside/quayside/Row" "bytes" "[B" (.ref bs) := f1054.other W1061 (Or.inr (slot_ne (Or.inl (hw _ (List.mem_of_getElem? (i := 12) rfl))) (Or.inl (hw _ (List.mem_of_getElem? (i := 31) rfl))) (by decide) (t := (.array .byte)) (t' := .int) (by decide) (by decide)))
    have f1070 : own_Ar Z h1061 rs .int cap (own_I (own_set gs k (Int32.ofNat i))) := f1055.other W1061 (Ne.symm hn1)
    have f1071 : own_Ar Z h1061 re .int cap (own_I (own_set ge k j)) := f1059.other W1061 (Ne.symm hn2)
    have f1072 : Fld Z h1061 o "com/example/quayside/quayside/Row" "nulls" "[Z" .null := f1056.other W1061 (Or.inr (slot_ne (Or.inl (hw _ (List.mem_of_getElem? (i := 65) rfl))) (Or.inl (hw _ (List.mem_of_getElem? (i := 31) rfl))) (by decide) (t := (.array .boolean)) (t' := .int) (by decide) (by decide)))
    have f1073 : Fld Z h1061 o "com/example/quayside/quayside/Row" "nullCount" "I" (.int (0 : Int32)) := f1057.other W1061 (Or.inr (slot_ne (Or.inl (hw _ (List.mem_of_getElem? (i := 52) rfl))) (Or.inl (hw _ (List.mem_of_getElem? (i := 31) rfl))) (by decide) (t := .int) (t' := .int) (by decide) (by decide)))
    have z1074 : n0 ≤ h1061.size := Nat.le_trans z1058 (Keep.of_wr W1061).1
    have f1075 : Fld Z h1061 o "com/example/quayside/quayside/Row" "size" "I" (.int (Int32.ofNat (k + 1))) := f1051.same W1061
    have N1061 := Fr.snoc X1061 N1045 hg1
    refine own_Go.of (S' := (T1061.setTop (mkF m 102 #[.val (.ref o), .val (.int (Int32.ofNat i)), .val (.int j)] [(.ref o), (.ref o)]))) (fun t kt => ?_) ?_
    · show Steps p.tables e below (T1061.setTop (mkF m 100 #[.val (.ref o), .val (.int (Int32.ofNat i)), .val (.int j)] [])) _
      refine XS.aloadN X1061.here hx rfl (own_hb hby d5_100) rfl rfl ?_
      show Steps p.tables e below (T1061.setTop (mkF m 101 #[.val (.ref o), .val (.int (Int32.ofNat i)), .val (.int j)] [(.ref o)])) _
      refine XS.aloadN X1061.here hx rfl (own_hb hby d5_101) rfl rfl ?_
      exact kt
    obtain ⟨T1076, X1076, e1076, st1076⟩ := getF X1061 hx hZ hown (host := "") (Or.inl (hw _ (List.mem_of_getElem? (i := 32) rfl))) Via.refl e1061 f1067 (g := (mkF m 102 #[.val (.ref o), .val (.int (Int32.ofNat i)), .val (.int j)] [(.ref o), (.ref o)])) rfl rfl (own_hb hby d5_102)
    refine own_Go.of (S' := (T1076.setTop (mkF m 105 #[.val (.ref o), .val (.int (Int32.ofNat i)), .val (.int j)] [(.int r), (.ref o)]))) st1076 ?_
    refine own_Go.of (S' := (T1076.setTop (mkF m 106 #[.val (.ref o), .val (.int (Int32.ofNat i)), .val (.int j)] [(.int j), (.int r), (.ref o)]))) (fun t kt => ?_) ?_
    · show Steps p.tables e below (T1076.setTop (mkF m 105 #[.val (.ref o), .val (.int (Int32.ofNat i)), .val (.int j)] [(.int r), (.ref o)])) _
      refine XS.iloadN X1076.here hx rfl (own_hb hby d5_105) rfl ?_
      exact kt
    obtain ⟨_, _, ⟨T1077, L1077, k1077, n1077⟩, -, X1077, ⟨Lc1077, hQ1077, l1077, y1077, z1077⟩, st1077⟩ := Jvm.LawKit.callS X1076 hx (y := (⟨"java/lang/Math", "max", "(II)I"⟩ : MethodName)) hown (mvT hZ (hw _ (List.mem_of_getElem? (i := 34) rfl))) (mvT hZ (hw _ (List.mem_of_getElem? (i := 35) rfl))) (mvT hZ (hw _ (List.mem_of_getElem? (i := 36) rfl))) (mvT hZ (hw _ (List.mem_of_getElem? (i := 37) rfl))) (by decide) (backOf (W := 1) (rm6 l Z a0 hw [] r j h1061 n0 z1074 ) hZ (hw _ (List.mem_of_getElem? (i := 37) rfl)) (hw _ (List.mem_of_getElem? (i := 36) rfl)) (by decide) (by decide)) (g := (mkF m 106 #[.val (.ref o), .val (.int (Int32.ofNat i)), .val (.int j)] [(.int j), (.int r), (.ref o)])) rfl (by rw [hml]; rfl) (argsL := [(.int r), (.int j)]) (rest := [(.ref o)]) (lenOf pd_0 rfl) rfl (by show 2 * 0 + _ ≤ _; exact Nat.le_of_eq rfl) (own_hb hby d5_106) (fun _ _ => ⟨rfl, e1076, (by decide : 0 + 0 ≤ _), (by decide : 0 + 0 ≤ _)⟩)
    dsimp only [Pt.U, Pt.locs, Pt.cells, Pt.slots] at X1077 l1077 y1077 z1077 st1077 hQ1077
    subst l1077 y1077 z1077
    obtain ⟨rfl, N1077q, hh1077⟩ := hQ1077
    have N1077 := Fr.app N1061 N1077q
    refine own_Go.of (S' := (T1077.setTop (mkF m 109 #[.val (.ref o), .val (.int (Int32.ofNat i)), .val (.int j)] [(.int (own_maxI r j)), (.ref o)]))) (fun t kt => st1077 t kt) ?_
    obtain ⟨T1078, h1078, X1078, e1078, W1078, st1078⟩ := putF X1077 hx hZ hown (host := "") (Or.inl (hw _ (List.mem_of_getElem? (i := 32) rfl))) Via.refl hh1077 f1067 f1064 (Or.inl (hw _ (List.mem_of_getElem? (i := 33) rfl))) (hw _ (List.mem_of_getElem? (i := 2) rfl)) (ty := .int) (by decide) rfl rfl (g := (mkF m 109 #[.val (.ref o), .val (.int (Int32.ofNat i)), .val (.int j)] [(.int (own_maxI r j)), (.ref o)])) rfl rfl (own_hb hby d5_109)
    refine own_Go.of (S' := (T1078.setTop (mkF m 112 #[.val (.ref o), .val (.int (Int32.ofNat i)), .val (.int j)] []))) st1078 ?_
    have kx1079 : own_Kx h0 h1078 x := kx1062.wr W1078 hn4
    have f1080 : own_Lt h1078 x := f1063.wr W1078
    have f1081 : Exa Z h1078 o "com/example/quayside/quayside/Row" := f1064.wr W1078
    have f1082 : Fld Z h1078 o "com/example/quayside/quayside/Row" "starts" "[I" (.ref rs) := f1065.other W1078 (Or.inr (slot_ne (Or.inl (hw _ (List.mem_of_getElem? (i := 15) rfl))) (Or.inl (hw _ (List.mem_of_getElem? (i := 33) rfl))) (by decide) (t := (.array .int)) (t' := .int) (by decide) (by decide)))
    have f1083 : Fld Z h1078 o "com/example/quayside/quayside/Row" "ends" "[I" (.ref re) := f1066.other W1078 (Or.inr (slot_ne (Or.inl (hw _ (List.mem_of_getElem? (i := 17) rfl))) (Or.inl (hw _ (List.mem_of_getElem? (i := 33) rfl))) (by decide) (t := (.array .int)) (t' := .int) (by decide) (by decide)))
    have f1084 : Fld Z h1078 o "com/example/quayside/quayside/Row" "size" "I" (.int (Int32.ofNat (k + 1))) := f1075.other W1078 (Or.inr (slot_ne (Or.inl (hw _ (List.mem_of_getElem? (i := 31) rfl))) (Or.inl (hw _ (List.mem_of_getElem? (i := 33) rfl))) (by decide) (t := .int) (t' := .int) (by decide) (by decide)))
    have f1085 : Fld Z h1078 o "com/example/quayside/quayside/Row" "text" "Z" (.int tx) := f1068.other W1078 (Or.inr (slot_ne (Or.inl (hw _ (List.mem_of_getElem? (i := 39) rfl))) (Or.inl (hw _ (List.mem_of_getElem? (i := 33) rfl))) (by decide) (t := .boolean) (t' := .int) (by decide) (by decide)))
    have f1086 : Fld Z h1078 o "com/example/quayside/quayside/Row" "bytes" "[B" (.ref bs) := f1069.other W1078 (Or.inr (slot_ne (Or.inl (hw _ (List.mem_of_getElem? (i := 12) rfl))) (Or.inl (hw _ (List.mem_of_getElem? (i := 33) rfl))) (by decide) (t := (.array .byte)) (t' := .int) (by decide) (by decide)))
    have f1087 : own_Ar Z h1078 rs .int cap (own_I (own_set gs k (Int32.ofNat i))) := f1070.other W1078 (Ne.symm hn1)
    have f1088 : own_Ar Z h1078 re .int cap (own_I (own_set ge k j)) := f1071.other W1078 (Ne.symm hn2)
    have f1089 : Fld Z h1078 o "com/example/quayside/quayside/Row" "nulls" "[Z" .null := f1072.other W1078 (Or.inr (slot_ne (Or.inl (hw _ (List.mem_of_getElem? (i := 65) rfl))) (Or.inl (hw _ (List.mem_of_getElem? (i := 33) rfl))) (by decide) (t := (.array .boolean)) (t' := .int) (by decide) (by decide)))
    have f1090 : Fld Z h1078 o "com/example/quayside/quayside/Row" "nullCount" "I" (.int (0 : Int32)) := f1073.other W1078 (Or.inr (slot_ne (Or.inl (hw _ (List.mem_of_getElem? (i := 52) rfl))) (Or.inl (hw _ (List.mem_of_getElem? (i := 33) rfl))) (by decide) (t := .int) (t' := .int) (by decide) (by decide)))
    have z1091 : n0 ≤ h1078.size := Nat.le_trans z1074 (Keep.of_wr W1078).1
    have f1092 : Fld Z h1078 o "com/example/quayside/quayside/Row" "reach" "I" (.int (own_maxI r j)) := f1067.same W1078
    have N1078 := Fr.snoc X1078 N1077 hg1
    refine own_Go.of (S' := (T1078.setTop (mkF m 114 #[.val (.ref o), .val (.int (Int32.ofNat i)), .val (.int j)] [(.int (0 : Int32)), (.ref o)]))) (fun t kt => ?_) ?_
    · show Steps p.tables e below (T1078.setTop (mkF m 112 #[.val (.ref o), .val (.int (Int32.ofNat i)), .val (.int j)] [])) _
      refine XS.aloadN X1078.here hx rfl (own_hb hby d5_112) rfl rfl ?_
      show Steps p.tables e below (T1078.setTop (mkF m 113 #[.val (.ref o), .val (.int (Int32.ofNat i)), .val (.int j)] [(.ref o)])) _
      refine XS.iconst X1078.here hx rfl (own_hb hby d5_113) ?_
      exact kt
    obtain ⟨T1093, h1093, X1093, e1093, W1093, st1093⟩ := putFN X1078 hx hZ hown (hw _ (List.mem_of_getElem? (i := 38) rfl)) Via.refl e1078 f1085 f1081 (Or.inl (hw _ (List.mem_of_getElem? (i := 39) rfl))) (hw _ (List.mem_of_getElem? (i := 2) rfl)) (ty := .boolean) (v' := (.int (nar .boolean (0 : Int32)))) (by decide) rfl (fits_nar_bool _) (g := (mkF m 114 #[.val (.ref o), .val (.int (Int32.ofNat i)), .val (.int j)] [(.int (0 : Int32)), (.ref o)])) rfl rfl (own_hb hby d5_114)
    refine own_Go.of (S' := (T1093.setTop (mkF m 117 #[.val (.ref o), .val (.int (Int32.ofNat i)), .val (.int j)] []))) st1093 ?_
    have kx1094 : own_Kx h0 h1093 x := kx1079.wr W1093 hn4
    have f1095 : own_Lt h1093 x := f1080.wr W1093
    have f1096 : Exa Z h1093 o "com/example/quayside/quayside/Row" := f1081.wr W1093
    have f1097 : Fld Z h1093 o "com/example/quayside/quayside/Row" "starts" "[I" (.ref rs) := f1082.other W1093 (Or.inr (slot_ne (Or.inl (hw _ (List.mem_of_getElem? (i := 15) rfl))) (Or.inl (hw _ (List.mem_of_getElem? (i := 39) rfl))) (by decide) (t := (.array .int)) (t' := .boolean) (by decide) (by decide)))
    have f1098 : Fld Z h1093 o "com/example/quayside/quayside/Row" "ends" "[I" (.ref re) := f1083.other W1093 (Or.inr (slot_ne (Or.inl (hw _ (List.mem_of_getElem? (i := 17) rfl))) (Or.inl (hw _ (List.mem_of_getElem? (i := 39) rfl))) (by decide) (t := (.array .int)) (t' := .boolean) (by decide) (by decide)))
    have f1099 : Fld Z h1093 o "com/example/quayside/quayside/Row" "size" "I" (.int (Int32.ofNat (k + 1))) := f1084.other W1093 (Or.inr (slot_ne (Or.inl (hw _ (List.mem_of_getElem? (i := 31) rfl))) (Or.inl (hw _ (List.mem_of_getElem? (i := 39) rfl))) (by decide) (t := .int) (t' := .boolean) (by decide) (by decide)))
    have f1100 : Fld Z h1093 o "com/example/quayside/quayside/Row" "reach" "I" (.int (own_maxI r j)) := f1092.other W1093 (Or.inr (slot_ne (Or.inl (hw _ (List.mem_of_getElem? (i := 33) rfl))) (Or.inl (hw _ (List.mem_of_getElem? (i := 39) rfl))) (by decide) (t := .int) (t' := .boolean) (by decide) (by decide)))
    have f1101 : Fld Z h1093 o "com/example/quayside/quayside/Row" "bytes" "[B" (.ref bs) := f1086.other W1093 (Or.inr (slot_ne (Or.inl (hw _ (List.mem_of_getElem? (i := 12) rfl))) (Or.inl (hw _ (List.mem_of_getElem? (i := 39) rfl))) (by decide) (t := (.array .byte)) (t' := .boolean) (by decide) (by decide)))
    have f1102 : own_Ar Z h1093 rs .int cap (own_I (own_set gs k (Int32.ofNat i))) := f1087.other W1093 (Ne.symm hn1)
    have f1103 : own_Ar Z h1093 re .int cap (own_I (own_set ge k j)) := f1088.other W1093 (Ne.symm hn2)
    have f1104 : Fld Z h1093 o "com/example/quayside/quayside/Row" "nulls" "[Z" .null := f1089.other W1093 (Or.inr (slot_ne (Or.inl (hw _ (List.mem_of_getElem? (i := 65) rfl))) (Or.inl (hw _ (List.mem_of_getElem? (i := 39) rfl))) (by decide) (t := (.array .boolean)) (t' := .boolean) (by decide) (by decide)))
    have f1105 : Fld Z h1093 o "com/example/quayside/quayside/Row" "nullCount" "I" (.int (0 : Int32)) := f1090.other W1093 (Or.inr (slot_ne (Or.inl (hw _ (List.mem_of_getElem? (i := 52) rfl))) (Or.inl (hw _ (List.mem_of_getElem? (i := 39) rfl))) (by decide) (t := .int) (t' := .boolean) (by decide) (by decide)))
    have z1106 : n0 ≤ h1093.size := Nat.le_trans z1091 (Keep.of_wr W1093).1
    have f1107 : Fld Z h1093 o "com/example/quayside/quayside/Row" "text" "Z" (.int (nar .boolean (0 : Int32))) := f1085.same W1093
    have N1093 := Fr.snoc X1093 N1078 hg1
    have f1108 : Fld Z h1093 o "com/example/quayside/quayside/Row" "text" "Z" (.int (0 : Int32)) := f1107
    exact own_retV X1093 hx hlk hret (own_hb hby d5_117) e1093 ⟨rfl, N1093, kx1094, ⟨rs, re, bs, (own_set gs k (Int32.ofNat i)), (own_set ge k j), (0 : Int32), (own_maxI r j), f1096, f1097, f1098, f1099, f1100, f1108, f1101, f1102, f1103, hg1, hg2, hg3, hn1, hn2, hn3, hn4, hn5, hn6, (by omega), (by omega), own_s01 hf01 (Or.inl rfl), Or.inl ⟨f1104, f1105, own_z1 hf0⟩⟩⟩ (by decide) (by decide)
  · skip
    refine own_Go.of (S' := (T0.setTop (mkF m 25 #[.val (.ref o), .val (.int (Int32.ofNat i)), .val (.int j)] [(.ref o)]))) (fun t kt => ?_) ?_
    · show Steps p.tables e below (T0.setTop (mkF m 0 #[.val (.ref o), .val (.int (Int32.ofNat i)), .val (.int j)] [])) _
      refine XS.iloadN X0.here hx rfl (own_hb hby d5_0) rfl ?_
      show Steps p.tables e below (T0.setTop (mkF m 1 #[.val (.ref o), .val (.int (Int32.ofNat i)), .val (.int j)] [(.int (Int32.ofNat i))])) _
      refine XS.ifNo X0.here hx rfl (own_hb hby d5_1) rfl ((if0 _ _).trans (flt (fun q => by have h2 := (own_ltN (b := 0) hi (by decide)).mp q; omega)).1) ?_
      show Steps p.tables e below (T0.setTop (mkF m 4 #[.val (.ref o), .val (.int (Int32.ofNat i)), .val (.int j)] [])) _
      refine XS.iloadN X0.here hx rfl (own_hb hby d5_4) rfl ?_
      show Steps p.tables e below (T0.setTop (mkF m 5 #[.val (.ref o), .val (.int (Int32.ofNat i)), .val (.int j)] [(.int j)])) _
      refine XS.iloadN X0.here hx rfl (own_hb hby d5_5) rfl ?_
      show Steps p.tables e below (T0.setTop (mkF m 6 #[.val (.ref o), .val (.int (Int32.ofNat i)), .val (.int j)] [(.int (Int32.ofNat i)), (.int j)])) _
      refine XS.icmpYes X0.here hx rfl (pc0 := 6) (pc' := 24) rfl (own_hb hby d5_6) rfl (flt hij).2.1 (by decide) (by decide) ?_
      show Steps p.tables e below (T0.setTop (mkF m 24 #[.val (.ref o), .val (.int (Int32.ofNat i)), .val (.int j)] [])) _
      refine XS.aloadN X0.here hx rfl (own_hb hby d5_24) rfl rfl ?_
      exact kt
    obtain ⟨T1109, X1109, e1109, st1109⟩ := getF X0 hx hZ hown (host := "") (Or.inl (hw _ (List.mem_of_getElem? (i := 30) rfl))) Via.refl e0 hF3 (g := (mkF m 25 #[.val (.ref o), .val (.int (Int32.ofNat i)), .val (.int j)] [(.ref o)])) rfl rfl (own_hb hby d5_25)
    refine own_Go.of (S' := (T1109.setTop (mkF m 28 #[.val (.ref o), .val (.int (Int32.ofNat i)), .val (.int j)] [(.int (Int32.ofNat k))]))) st1109 ?_
    refine own_Go.of (S' := (T1109.setTop (mkF m 29 #[.val (.ref o), .val (.int (Int32.ofNat i)), .val (.int j)] [(.ref o), (.int (Int32.ofNat k))]))) (fun t kt => ?_) ?_
    · show Steps p.tables e below (T1109.setTop (mkF m 28 #[.val (.ref o), .val (.int (Int32.ofNat i)), .val (.int j)] [(.int (Int32.ofNat k))])) _
      refine XS.aloadN X1109.here hx rfl (own_hb hby d5_28) rfl rfl ?_
      exact kt
    obtain ⟨T1110, X1110, e1110, st1110⟩ := getF X1109 hx hZ hown (host := "") (Or.inl (hw _ (List.mem_of_getElem? (i := 14) rfl))) Via.refl e1109 hF1 (g := (mkF m 29 #[.val (.ref o), .val (.int (Int32.ofNat i)), .val (.int j)] [(.ref o), (.int (Int32.ofNat k))])) rfl rfl (own_hb hby d5_29)
    refine own_Go.of (S' := (T1110.setTop (mkF m 32 #[.val (.ref o), .val (.int (Int32.ofNat i)), .val (.int j)] [(.ref rs), (.int (Int32.ofNat k))]))) st1110 ?_
    obtain ⟨cl1111, Ar1111, hln1111⟩ := own_Ar.len hA1
    refine own_Go.of (S' := (T1110.setTop (mkF m 71 #[.val (.ref o), .val (.int (Int32.ofNat i)), .val (.int j)] [(.ref o)]))) (fun t kt => ?_) ?_
    · show Steps p.tables e below (T1110.setTop (mkF m 32 #[.val (.ref o), .val (.int (Int32.ofNat i)), .val (.int j)] [(.ref rs), (.int (Int32.ofNat k))])) _
      refine X1110.arraylength hx (by rw [e1110]; exact Ar1111.1) (State.isArrayOf_alike hZ.alike Ar1111.2.1) (g := (mkF m 32 #[.val (.ref o), .val (.int (Int32.ofNat i)), .val (.int j)] [(.ref rs), (.int (Int32.ofNat k))])) rfl rfl (own_hb hby d5_32) _ ?_
      rw [hln1111]
      show Steps p.tables e below (T1110.setTop (mkF m 33 #[.val (.ref o), .val (.int (Int32.ofNat i)), .val (.int j)] [(.int (Int32.ofNat cap)), (.int (Int32.ofNat k))])) _
      refine XS.icmpYes X1110.here hx rfl (pc0 := 33) (pc' := 70) rfl (own_hb hby d5_33) rfl (feq (fun q => by have h2 := (own_eqN (by omega) (by omega)).mp q; omega)).2 (by decide) (by decide) ?_
      show Steps p.tables e below (T1110.setTop (mkF m 70 #[.val (.ref o), .val (.int (Int32.ofNat i)), .val (.int j)] [])) _
      refine XS.aloadN X1110.here hx rfl (own_hb hby d5_70) rfl rfl ?_
      exact kt
    obtain ⟨T1112, X1112, e1112, st1112⟩ := getF X1110 hx hZ hown (host := "") (Or.inl (hw _ (List.mem_of_getElem? (i := 14) rfl))) Via.refl e1110 hF1 (g := (mkF m 71 #[.val (.ref o), .val (.int (Int32.ofNat i)), .val (.int j)] [(.ref o)])) rfl rfl (own_hb hby d5_71)
    refine own_Go.of (S' := (T1112.setTop (mkF m 74 #[.val (.ref o), .val (.int (Int32.ofNat i)), .val (.int j)] [(.ref rs)]))) st1112 ?_
    refine own_Go.of (S' := (T1112.setTop (mkF m 75 #[.val (.ref o), .val (.int (Int32.ofNat i)), .val (.int j)] [(.ref o), (.ref rs)]))) (fun t kt => ?_) ?_
    · show Steps p.tables e below (T1112.setTop (mkF m 74 #[.val (.ref o), .val (.int (Int32.ofNat i)), .val (.int j)] [(.ref rs)])) _
      refine XS.aloadN X1112.here hx rfl (own_hb hby d5_74) rfl rfl ?_
      exact kt
    obtain ⟨T1113, X1113, e1113, st1113⟩ := getF X1112 hx hZ hown (host := "") (Or.inl (hw _ (List.mem_of_getElem? (i := 30) rfl))) Via.refl e1112 hF3 (g := (mkF m 75 #[.val (.ref o), .val (.int (Int32.ofNat i)), .val (.int j)] [(.ref o), (.ref rs)])) rfl rfl (own_hb hby d5_75)
    refine own_Go.of (S' := (T1113.setTop (mkF m 78 #[.val (.ref o), .val (.int (Int32.ofNat i)), .val (.int j)] [(.int (Int32.ofNat k)), (.ref rs)]))) st1113 ?_
    refine own_Go.of (S' := (T1113.setTop (mkF m 79 #[.val (.ref o), .val (.int (Int32.ofNat i)), .val (.int j)] [(.int (Int32.ofNat i)), (.int (Int32.ofNat k)), (.ref rs)]))) (fun t kt => ?_) ?_
    · show Steps p.tables e below (T1113.setTop (mkF m 78 #[.val (.ref o), .val (.int (Int32.ofNat i)), .val (.int j)] [(.int (Int32.ofNat k)), (.ref rs)])) _
      refine XS.iloadN X1113.here hx rfl (own_hb hby d5_78) rfl ?_
      exact kt
    obtain ⟨cl1114, Ar1114, hin1114, ub1114⟩ := own_Ar.put (j := (Int32.ofNat k)) (k := k) hA1 ⟨rfl, by omega⟩
    obtain ⟨T1114, h1114, X1114, e1114, W1114, st1114⟩ := stI X1113 hx hZ e1113 Ar1114 (j := (Int32.ofNat k)) hin1114 (g := (mkF m 79 #[.val (.ref o), .val (.int (Int32.ofNat i)), .val (.int j)] [(.int (Int32.ofNat i)), (.int (Int32.ofNat k)), (.ref rs)])) rfl rfl (own_hb hby d5_79)
    refine own_Go.of (S' := (T1114.setTop (mkF m 80 #[.val (.ref o), .val (.int (Int32.ofNat i)), .val (.int j)] []))) st1114 ?_
    have kx1115 : own_Kx h0 h1114 x := kx0.wr W1114 hn5
    have f1116 : own_Lt h1114 x := pr4.wr W1114
    have f1117 : Exa Z h1114 o "com/example/quayside/quayside/Row" := hE.wr W1114
    have f1118 : Fld Z h1114 o "com/example/quayside/quayside/Row" "starts" "[I" (.ref rs) := hF1.other W1114 (Or.inl hn1)
    have f1119 : Fld Z h1114 o "com/example/quayside/quayside/Row" "ends" "[I" (.ref re) := hF2.other W1114 (Or.inl hn1)
    have f1120 : Fld Z h1114 o "com/example/quayside/quayside/Row" "size" "I" (.int (Int32.ofNat k)) := hF3.other W1114 (Or.inl hn1)
    have f1121 : Fld Z h1114 o "com/example/quayside/quayside/Row" "reach" "I" (.int r) := hF4.other W1114 (Or.inl hn1)
    have f1122 : Fld Z h1114 o "com/example/quayside/quayside/Row" "text" "Z" (.int tx) := hF5.other W1114 (Or.inl hn1)
    have f1123 : Fld Z h1114 o "com/example/quayside/quayside/Row" "bytes" "[B" (.ref bs) := hF6.other W1114 (Or.inl hn1)
    have f1124 : own_Ar Z h1114 re .int cap (own_I ge) := hA2.other W1114 (Ne.symm hn3)
    have f1125 : Fld Z h1114 o "com/example/quayside/quayside/Row" "nulls" "[Z" (.ref rn) := hm1.other W1114 (Or.inl hn1)
    have f1126 : Fld Z h1114 o "com/example/quayside/quayside/Row" "nullCount" "I" (.int (Int32.ofNat c')) := hm2.other W1114 (Or.inl hn1)
    have f1127 : own_Ar Z h1114 rn .boolean mn (own_I g) := hA3.other W1114 (Ne.symm hn8)
    have z1128 : n0 ≤ h1114.size := Nat.le_trans Z0 (Keep.of_wr W1114).1
    have f1129 : own_Ar Z h1114 rs .int cap (own_I (own_set gs k (Int32.ofNat i))) := by rw [← own_upI]; exact ub1114 rfl W1114
    have N1114 := Fr.snoc X1114 N0 hg2
    refine own_Go.of (S' := (T1114.setTop (mkF m 81 #[.val (.ref o), .val (.int (Int32.ofNat i)), .val (.int j)] [(.ref o)]))) (fun t kt => ?_) ?_
    · show Steps p.tables e below (T1114.setTop (mkF m 80 #[.val (.ref o), .val (.int (Int32.ofNat i)), .val (.int j)] [])) _
      refine XS.aloadN X1114.here hx rfl (own_hb hby d5_80) rfl rfl ?_
      exact kt
    obtain ⟨T1130, X1130, e1130, st1130⟩ := getF X1114 hx hZ hown (host := "") (Or.inl (hw _ (List.mem_of_getElem? (i := 16) rfl))) Via.refl e1114 f1119 (g := (mkF m 81 #[.val (.ref o), .val (.int (Int32.ofNat i)), .val (.int j)] [(.ref o)])) rfl rfl (own_hb hby d5_81)
    refine own_Go.of (S' := (T1130.setTop (mkF m 84 #[.val (.ref o), .val (.int (Int32.ofNat i)), .val (.int j)] [(.ref re)]))) st1130 ?_
    refine own_Go.of (S' := (T1130.setTop (mkF m 85 #[.val (.ref o), .val (.int (Int32.ofNat i)), .val (.int j)] [(.ref o), (.ref re)]))) (fun t kt => ?_) ?_
    · show Steps p.tables e below (T1130.setTop (mkF m 84 #[.val (.ref o), .val (.int (Int32.ofNat i)), .val (.int j)] [(.ref re)])) _
      refine XS.aloadN X1130.here hx rfl (own_hb hby d5_84) rfl rfl ?_
      exact kt
    obtain ⟨T1131, X1131, e1131, st1131⟩ := getF X1130 hx hZ hown (host := "") (Or.inl (hw _ (List.mem_of_getElem? (i := 30) rfl))) Via.refl e1130 f1120 (g := (mkF m 85 #[.val (.ref o), .val (.int (Int32.ofNat i)), .val (.int j)] [(.ref o), (.ref re)])) rfl rfl (own_hb hby d5_85)
    refine own_Go.of (S' := (T1131.setTop (mkF m 88 #[.val (.ref o), .val (.int (Int32.ofNat i)), .val (.int j)] [(.int (Int32.ofNat k)), (.ref re)]))) st1131 ?_
    refine own_Go.of (S' := (T1131.setTop (mkF m 89 #[.val (.ref o), .val (.int (Int32.ofNat i)), .val (.int j)] [(.int j), (.int (Int32.ofNat k)), (.ref re)]))) (fun t kt => ?_) ?_
    · show Steps p.tables e below (T1131.setTop (mkF m 88 #[.val (.ref o), .val (.int (Int32.ofNat i)), .val (.int j)] [(.int (Int32.ofNat k)), (.ref re)])) _
      refine XS.iloadN X1131.here hx rfl (own_hb hby d5_88) rfl ?_
      exact kt
    obtain ⟨cl1132, Ar1132, hin1132, ub1132⟩ := own_Ar.put (j := (Int32.ofNat k)) (k := k) f1124 ⟨rfl, by omega⟩
    obtain ⟨T1132, h1132, X1132, e1132, W1132, st1132⟩ := stI X1131 hx hZ e1131 Ar1132 (j := (Int32.ofNat k)) hin1132 (g := (mkF m 89 #[.val (.ref o), .val (.int (Int32.ofNat i)), .val (.int j)] [(.int j), (.int (Int32.ofNat k)), (.ref re)])) rfl rfl (own_hb hby d5_89)
    refine own_Go.of (S' := (T1132.setTop (mkF m 90 #[.val (.ref o), .val (.int (Int32.ofNat i)), .val (.int j)] []))) st1132 ?_
    have kx1133 : own_Kx h0 h1132 x := kx1115.wr W1132 hn6
    have f1134 : own_Lt h1132 x := f1116.wr W1132
    have f1135 : Exa Z h1132 o "com/example/quayside/quayside/Row" := f1117.wr W1132
    have f1136 : Fld Z h1132 o "com/example/quayside/quayside/Row" "starts" "[I" (.ref rs) := f1118.other W1132 (Or.inl hn2)
    have f1137 : Fld Z h1132 o "com/example/quayside/quayside/Row" "ends" "[I" (.ref re) := f1119.other W1132 (Or.inl hn2)
    have f1138 : Fld Z h1132 o "com/example/quayside/quayside/Row" "size" "I" (.int (Int32.ofNat k)) := f1120.other W1132 (Or.inl hn2)
    have f1139 : Fld Z h1132 o "com/example/quayside/quayside/Row" "reach" "I" (.int r) := f1121.other W1132 (Or.inl hn2)
    have f1140 : Fld Z h1132 o "com/example/quayside/quayside/Row" "text" "Z" (.int tx) := f1122.other W1132 (Or.inl hn2)
    have f1141 : Fld Z h1132 o "com/example/quayside/quayside/Row" "bytes" "[B" (.ref bs) := f1123.other W1132 (Or.inl hn2)
    have f1142 : own_Ar Z h1132 rs .int cap (own_I (own_set gs k (Int32.ofNat i))) := f1129.other W1132 hn3
    have f1143 : Fld Z h1132 o "com/example/quayside/quayside/Row" "nulls" "[Z" (.ref rn) := f1125.other W1132 (Or.inl hn2)
    have f1144 : Fld Z h1132 o "com/example/quayside/quayside/Row" "nullCount" "I" (.int (Int32.ofNat c')) := f1126.other W1132 (Or.inl hn2)
    have f1145 : own_Ar Z h1132 rn .boolean mn (own_I g) := f1127.other W1132 (Ne.symm hn9)
    have z1146 : n0 ≤ h1132.size := Nat.le_trans z1128 (Keep.of_wr W1132).1
    have f1147 : own_Ar Z h1132 re .int cap (own_I (own_set ge k j)) := by rw [← own_upI]; exact ub1132 rfl W1132
    have N1132 := Fr.snoc X1132 N1114 hg3
    refine own_Go.of (S' := (T1132.setTop (mkF m 92 #[.val (.ref o), .val (.int (Int32.ofNat i)), .val (.int j)] [(.ref o), (.ref o)]))) (fun t kt => ?_) ?_
    · show Steps p.tables e below (T1132.setTop (mkF m 90 #[.val (.ref o), .val (.int (Int32.ofNat i)), .val (.int j)] [])) _
      refine XS.aloadN X1132.here hx rfl (own_hb hby d5_90) rfl rfl ?_
      show Steps p.tables e below (T1132.setTop (mkF m 91 #[.val (.ref o), .val (.int (Int32.ofNat i)), .val (.int j)] [(.ref o)])) _
      refine XS.dup X1132.here hx rfl (own_hb hby d5_91) rfl rfl ?_
      exact kt
    obtain ⟨T1148, X1148, e1148, st1148⟩ := getF X1132 hx hZ hown (host := "") (Or.inl (hw _ (List.mem_of_getElem? (i := 30) rfl))) Via.refl e1132 f1138 (g := (mkF m 92 #[.val (.ref o), .val (.int (Int32.ofNat i)), .val (.int j)] [(.ref o), (.ref o)])) rfl rfl (own_hb hby d5_92)
    refine own_Go.of (S' := (T1148.setTop (mkF m 95 #[.val (.ref o), .val (.int (Int32.ofNat i)), .val (.int j)] [(.int (Int32.ofNat k)), (.ref o)]))) st1148 ?_
    refine own_Go.of (S' := (T1148.setTop (mkF m 97 #[.val (.ref o), .val (.int (Int32.ofNat i)), .val (.int j)] [(.int (Int32.ofNat (k + 1))), (.ref o)]))) (fun t kt => ?_) ?_
    · show Steps p.tables e below (T1148.setTop (mkF m 95 #[.val (.ref o), .val (.int (Int32.ofNat i)), .val (.int j)] [(.int (Int32.ofNat k)), (.ref o)])) _
      refine XS.iconst X1148.here hx rfl (own_hb hby d5_95) ?_
      show Steps p.tables e below (T1148.setTop (mkF m 96 #[.val (.ref o), .val (.int (Int32.ofNat i)), .val (.int j)] [(.int (1 : Int32)), (.int (Int32.ofNat k)), (.ref o)])) _
      refine XS.iadd X1148.here hx rfl (own_hb hby d5_96) rfl ?_
      show Steps p.tables e below (T1148.setTop (mkF m 97 #[.val (.ref o), .val (.int (Int32.ofNat i)), .val (.int j)] [(.int ((Int32.ofNat k) + (1 : Int32))), (.ref o)])) _
      rw [show Int32.ofNat k + (1 : Int32) = Int32.ofNat (k + 1) from own_addN k 1]
      exact kt
    obtain ⟨T1149, h1149, X1149, e1149, W1149, st1149⟩ := putF X1148 hx hZ hown (host := "") (Or.inl (hw _ (List.mem_of_getElem? (i := 30) rfl))) Via.refl e1148 f1138 f1135 (Or.inl (hw _ (List.mem_of_getElem? (i := 31) rfl))) (hw _ (List.mem_of_getElem? (i := 2) rfl)) (ty := .int) (by decide) rfl rfl (g := (mkF m 97 #[.val (.ref o), .val (.int (Int32.ofNat i)), .val (.int j)] [(.int (Int32.ofNat (k + 1))), (.ref o)])) rfl rfl (own_hb hby d5_97)
    refine own_Go.of (S' := (T1149.setTop (mkF m 100 #[.val (.ref o), .val (.int (Int32.ofNat i)), .val (.int j)] []))) st1149 ?_
    have kx1150 : own_Kx h0 h1149 x := kx1133.wr W1149 hn4
    have f1151 : own_Lt h1149 x := f1134.wr W1149
    have f1152 : Exa Z h1149 o "com/example/quayside/quayside/Row" := f1135.wr W1149
    have f1153 : Fld Z h1149 o "com/example/quayside/quayside/Row" "starts" "[I" (.ref rs) := f1136.other W1149 (Or.inr (slot_ne (Or.inl (hw _ (List.mem_of_getElem? (i := 15) rfl))) (Or.inl (hw _ (List.mem_of_getElem? (i := 31) rfl))) (by decide) (t := (.array .int)) (t' := .int) (by decide) (by decide)))
    have f1154 : Fld Z h1149 o "com/example/quayside/quayside/Row" "ends" "[I" (.ref re) := f1137.other W1149 (Or.inr (slot_ne (Or.inl (hw _ (List.mem_of_getElem? (i := 17) rfl))) (Or.inl (hw _ (List.mem_of_getElem? (i := 31) rfl))) (by decide) (t := (.array .int)) (t' := .int) (by decide) (by decide)))
    have f1155 : Fld Z h1149 o "com/example/quayside/quayside/Row" "reach" "I" (.int r) := f1139.other W1149 (Or.inr (slot_ne (Or.inl (hw _ (List.mem_of_getElem? (i := 33) rfl))) (Or.inl (hw _ (List.mem_of_getElem? (i := 31) rfl))) (by decide) (t := .int) (t' := .int) (by decide) (by decide)))
    have f1156 : Fld Z h1149 o "com/example/quayside/quayside/Row" "text" "Z" (.int tx) := f1140.other W1149 (Or.inr (slot_ne (Or.inl (hw _ (List.mem_of_getElem? (i := 39) rfl))) (Or.inl (hw _ (List.mem_of_getElem? (i := 31) rfl))) (by decide) (t := .boolean) (t' := .int) (by decide) (by decide)))
    have f1157 : Fld Z h1149 o "com/example/quayside/quayside/Row" "bytes" "[B" (.ref bs) := f1141.other W1149 (Or.inr (slot_ne (Or.inl (hw _ (List.mem_of_getElem? (i := 12) rfl))) (Or.inl (hw _ (List.mem_of_getElem? (i := 31) rfl))) (by decide) (t := (.array .byte)) (t' := .int) (by decide) (by decide)))
    have f1158 : own_Ar Z h1149 rs .int cap (own_I (own_set gs k (Int32.ofNat i))) := f1142.other W1149 (Ne.symm hn1)
    have f1159 : own_Ar Z h1149 re .int cap (own_I (own_set ge k j)) := f1147.other W1149 (Ne.symm hn2)
    have f1160 : Fld Z h1149 o "com/example/quayside/quayside/Row" "nulls" "[Z" (.ref rn) := f1143.other W1149 (Or.inr (slot_ne (Or.inl (hw _ (List.mem_of_getElem? (i := 65) rfl))) (Or.inl (hw _ (List.mem_of_getElem? (i := 31) rfl))) (by decide) (t := (.array .boolean)) (t' := .int) (by decide) (by decide)))
    have f1161 : Fld Z h1149 o "com/example/quayside/quayside/Row" "nullCount" "I" (.int (Int32.ofNat c')) := f1144.other W1149 (Or.inr (slot_ne (Or.inl (hw _ (List.mem_of_getElem? (i := 52) rfl))) (Or.inl (hw _ (List.mem_of_getElem? (i := 31) rfl))) (by decide) (t := .int) (t' := .int) (by decide) (by decide)))
    have f1162 : own_Ar Z h1149 rn .boolean mn (own_I g) := f1145.other W1149 (Ne.symm hn7)
    have z1163 : n0 ≤ h1149.size := Nat.le_trans z1146 (Keep.of_wr W1149).1
    have f1164 : Fld Z h1149 o "com/example/quayside/quayside/Row" "size" "I" (.int (Int32.ofNat (k + 1))) := f1138.same W1149
    have N1149 := Fr.snoc X1149 N1132 hg1
    refine own_Go.of (S' := (T1149.setTop (mkF m 102 #[.val (.ref o), .val (.int (Int32.ofNat i)), .val (.int j)] [(.ref o), (.ref o)]))) (fun t kt => ?_) ?_
    · show Steps p.tables e below (T1149.setTop (mkF m 100 #[.val (.ref o), .val (.int (Int32.ofNat i)), .val (.int j)] [])) _
      refine XS.aloadN X1149.here hx rfl (own_hb hby d5_100) rfl rfl ?_
      show Steps p.tables e below (T1149.setTop (mkF m 101 #[.val (.ref o), .val (.int (Int32.ofNat i)), .val (.int j)] [(.ref o)])) _
      refine XS.aloadN X1149.here hx rfl (own_hb hby d5_101) rfl rfl ?_
      exact kt
    obtain ⟨T1165, X1165, e1165, st1165⟩ := getF X1149 hx hZ hown (host := "") (Or.inl (hw _ (List.mem_of_getElem? (i := 32) rfl))) Via.refl e1149 f1155 (g := (mkF m 102 #[.val (.ref o), .val (.int (Int32.ofNat i)), .val (.int j)] [(.ref o), (.ref o)])) rfl rfl (own_hb hby d5_102)
    refine own_Go.of (S' := (T1165.setTop (mkF m 105 #[.val (.ref o), .val (.int (Int32.ofNat i)), .val (.int j)] [(.int r), (.ref o)]))) st1165 ?_
    refine own_Go.of (S' := (T1165.setTop (mkF m 106 #[.val (.ref o), .val (.int (Int32.ofNat i)), .val (.int j)] [(.int j), (.int r), (.ref o)]))) (fun t kt => ?_) ?_
    · show Steps p.tables e below (T1165.setTop (mkF m 105 #[.val (.ref o), .val (.int (Int32.ofNat i)), .val (.int j)] [(.int r), (.ref o)])) _
      refine XS.iloadN X1165.here hx rfl (own_hb hby d5_105) rfl ?_
      exact kt
    obtain ⟨_, _, ⟨T1166, L1166, k1166, n1166⟩, -, X1166, ⟨Lc1166, hQ1166, l1166, y1166, z1166⟩, st1166⟩ := Jvm.LawKit.callS X1165 hx (y := (⟨"java/lang/Math", "max", "(II)I"⟩ : MethodName)) hown (mvT hZ (hw _ (List.mem_of_getElem? (i := 34) rfl))) (mvT hZ (hw _ (List.mem_of_getElem? (i := 35) rfl))) (mvT hZ (hw _ (List.mem_of_getElem? (i := 36) rfl))) (mvT hZ (hw _ (List.mem_of_getElem? (i := 37) rfl))) (by decide) (backOf (W := 1) (rm6 l Z a0 hw [] r j h1149 n0 z1163 ) hZ (hw _ (List.mem_of_getElem? (i := 37) rfl)) (hw _ (List.mem_of_getElem? (i := 36) rfl)) (by decide) (by decide)) (g := (mkF m 106 #[.val (.ref o), .val (.int (Int32.ofNat i)), .val (.int j)] [(.int j), (.int r), (.ref o)])) rfl (by rw [hml]; rfl) (argsL := [(.int r), (.int j)]) (rest := [(.ref o)]) (lenOf pd_0 rfl) rfl (by show 2 * 0 + _ ≤ _; exact Nat.le_of_eq rfl) (own_hb hby d5_106) (fun _ _ => ⟨rfl, e1165, (by decide : 0 + 0 ≤ _), (by decide : 0 + 0 ≤ _)⟩)
    dsimp only [Pt.U, Pt.locs, Pt.cells, Pt.slots] at X1166 l1166 y1166 z1166 st1166 hQ1166
    subst l1166 y1166 z1166
    obtain ⟨rfl, N1166q, hh1166⟩ := hQ1166
    have N1166 := Fr.app N1149 N1166q
    refine own_Go.of (S' := (T1166.setTop (mkF m 109 #[.val (.ref o), .val (.int (Int32.ofNat i)), .val (.int j)] [(.int (own_maxI r j)), (.ref o)]))) (fun t kt => st1166 t kt) ?_
    obtain ⟨T1167, h1167, X1167, e1167, W1167, st1167⟩ := putF X1166 hx hZ hown (host := "") (Or.inl (hw _ (List.mem_of_getElem? (i := 32) rfl))) Via.refl hh1166 f1155 f1152 (Or.inl (hw _ (List.mem_of_getElem? (i := 33) rfl))) (hw _ (List.mem_of_getElem? (i := 2) rfl)) (ty := .int) (by decide) rfl rfl (g := (mkF m 109 #[.val (.ref o), .val (.int (Int32.ofNat i)), .val (.int j)] [(.int (own_maxI r j)), (.ref o)])) rfl rfl (own_hb hby d5_109)
    refine own_Go.of (S' := (T1167.setTop (mkF m 112 #[.val (.ref o), .val (.int (Int32.ofNat i)), .val (.int j)] []))) st1167 ?_
    have kx1168 : own_Kx h0 h1167 x := kx1150.wr W1167 hn4
    have f1169 : own_Lt h1167 x := f1151.wr W1167
    have f1170 : Exa Z h1167 o "com/example/quayside/quayside/Row" := f1152.wr W1167
    have f1171 : Fld Z h1167 o "com/example/quayside/quayside/Row" "starts" "[I" (.ref rs) := f1153.other W1167 (Or.inr (slot_ne (Or.inl (hw _ (List.mem_of_getElem? (i := 15) rfl))) (Or.inl (hw _ (List.mem_of_getElem? (i := 33) rfl))) (by decide) (t := (.array .int)) (t' := .int) (by decide) (by decide)))
    have f1172 : Fld Z h1167 o "com/example/quayside/quayside/Row" "ends" "[I" (.ref re) := f1154.other W1167 (Or.inr (slot_ne (Or.inl (hw _ (List.mem_of_getElem? (i := 17) rfl))) (Or.inl (hw _ (List.mem_of_getElem? (i := 33) rfl))) (by decide) (t := (.array .int)) (t' := .int) (by decide) (by decide)))
    have f1173 : Fld Z h1167 o "com/example/quayside/quayside/Row" "size" "I" (.int (Int32.ofNat (k + 1))) := f1164.other W1167 (Or.inr (slot_ne (Or.inl (hw _ (List.mem_of_getElem? (i := 31) rfl))) (Or.inl (hw _ (List.mem_of_getElem? (i := 33) rfl))) (by decide) (t := .int) (t' := .int) (by decide) (by decide)))
    have f1174 : Fld Z h1167 o "com/example/quayside/quayside/Row" "text" "Z" (.int tx) := f1156.other W1167 (Or.inr (slot_ne (Or.inl (hw _ (List.mem_of_getElem? (i := 39) rfl))) (Or.inl (hw _ (List.mem_of_getElem? (i := 33) rfl))) (by decide) (t := .boolean) (t' := .int) (by decide) (by decide)))
    have f1175 : Fld Z h1167 o "com/example/quayside/quayside/Row" "bytes" "[B" (.ref bs) := f1157.other W1167 (Or.inr (slot_ne (Or.inl (hw _ (List.mem_of_getElem? (i := 12) rfl))) (Or.inl (hw _ (List.mem_of_getElem? (i := 33) rfl))) (by decide) (t := (.array .byte)) (t' := .int) (by decide) (by decide)))
    have f1176 : own_Ar Z h1167 rs .int cap (own_I (own_set gs k (Int32.ofNat i))) := f1158.other W1167 (Ne.symm hn1)
    have f1177 : own_Ar Z h1167 re .int cap (own_I (own_set ge k j)) := f1159.other W1167 (Ne.symm hn2)
    have f1178 : Fld Z h1167 o "com/example/quayside/quayside/Row" "nulls" "[Z" (.ref rn) := f1160.other W1167 (Or.inr (slot_ne (Or.inl (hw _ (List.mem_of_getElem? (i := 65) rfl))) (Or.inl (hw _ (List.mem_of_getElem? (i := 33) rfl))) (by decide) (t := (.array .boolean)) (t' := .int) (by decide) (by decide)))
    have f1179 : Fld Z h1167 o "com/example/quayside/quayside/Row" "nullCount" "I" (.int (Int32.ofNat c')) := f1161.other W1167 (Or.inr (slot_ne (Or.inl (hw _ (List.mem_of_getElem? (i := 52) rfl))) (Or.inl (hw _ (List.mem_of_getElem? (i := 33) rfl))) (by decide) (t := .int) (t' := .int) (by decide) (by decide)))
    have f1180 : own_Ar Z h1167 rn .boolean mn (own_I g) := f1162.other W1167 (Ne.symm hn7)
    have z1181 : n0 ≤ h1167.size := Nat.le_trans z1163 (Keep.of_wr W1167).1
    have f1182 : Fld Z h1167 o "com/example/quayside/quayside/Row" "reach" "I" (.int (own_maxI r j)) := f1155.same W1167
    have N1167 := Fr.snoc X1167 N1166 hg1
    refine own_Go.of (S' := (T1167.setTop (mkF m 114 #[.val (.ref o), .val (.int (Int32.ofNat i)), .val (.int j)] [(.int (0 : Int32)), (.ref o)]))) (fun t kt => ?_) ?_
    · show Steps p.tables e below (T1167.setTop (mkF m 112 #[.val (.ref o), .val (.int (Int32.ofNat i)), .val (.int j)] [])) _
      refine XS.aloadN X1167.here hx rfl (own_hb hby d5_112) rfl rfl ?_
      show Steps p.tables e below (T1167.setTop (mkF m 113 #[.val (.ref o), .val (.int (Int32.ofNat i)), .val (.int j)] [(.ref o)])) _
      refine XS.iconst X1167.here hx rfl (own_hb hby d5_113) ?_
      exact kt
    obtain ⟨T1183, h1183, X1183, e1183, W1183, st1183⟩ := putFN X1167 hx hZ hown (hw _ (List.mem_of_getElem? (i := 38) rfl)) Via.refl e1167 f1174 f1170 (Or.inl (hw _ (List.mem_of_getElem? (i := 39) rfl))) (hw _ (List.mem_of_getElem? (i := 2) rfl)) (ty := .boolean) (v' := (.int (nar .boolean (0 : Int32)))) (by decide) rfl (fits_nar_bool _) (g := (mkF m 114 #[.val (.ref o), .val (.int (Int32.ofNat i)), .val (.int j)] [(.int (0 : Int32)), (.ref o)])) rfl rfl (own_hb hby d5_114)
    refine own_Go.of (S' := (T1183.setTop (mkF m 117 #[.val (.ref o), .val (.int (Int32.ofNat i)), .val (.int j)] []))) st1183 ?_
    have kx1184 : own_Kx h0 h1183 x := kx1168.wr W1183 hn4
    have f1185 : own_Lt h1183 x := f1169.wr W1183
    have f1186 : Exa Z h1183 o "com/example/quayside/quayside/Row" := f1170.wr W1183
    have f1187 : Fld Z h1183 o "com/example/quayside/quayside/Row" "starts" "[I" (.ref rs) := f1171.other W1183 (Or.inr (slot_ne (Or.inl (hw _ (List.mem_of_getElem? (i := 15) rfl))) (Or.inl (hw _ (List.mem_of_getElem? (i := 39) rfl))) (by decide) (t := (.array .int)) (t' := .boolean) (by decide) (by decide)))
    have f1188 : Fld Z h1183 o "com/example/quayside/quayside/Row" "ends" "[I" (.ref re) := f1172.other W1183 (Or.inr (slot_ne (Or.inl (hw _ (List.mem_of_getElem? (i := 17) rfl))) (Or.inl (hw _ (List.mem_of_getElem? (i := 39) rfl))) (by decide) (t := (.array .int)) (t' := .boolean) (by decide) (by decide)))
    have f1189 : Fld Z h1183 o "com/example/quayside/quayside/Row" "size" "I" (.int (Int32.ofNat (k + 1))) := f1173.other W1183 (Or.inr (slot_ne (Or.inl (hw _ (List.mem_of_getElem? (i := 31) rfl))) (Or.inl (hw _ (List.mem_of_getElem? (i := 39) rfl))) (by decide) (t := .int) (t' := .boolean) (by decide) (by decide)))
    have f1190 : Fld Z h1183 o "com/example/quayside/quayside/Row" "reach" "I" (.int (own_maxI r j)) := f1182.other W1183 (Or.inr (slot_ne (Or.inl (hw _ (List.mem_of_getElem? (i := 33) rfl))) (Or.inl (hw _ (List.mem_of_getElem? (i := 39) rfl))) (by decide) (t := .int) (t' := .boolean) (by decide) (by decide)))
    have f1191 : Fld Z h1183 o "com/example/quayside/quayside/Row" "bytes" "[B" (.ref bs) := f1175.other W1183 (Or.inr (slot_ne (Or.inl (hw _ (List.mem_of_getElem? (i := 12) rfl))) (Or.inl (hw _ (List.mem_of_getElem? (i := 39) rfl))) (by decide) (t := (.array .byte)) (t' := .boolean) (by decide) (by decide)))
    have f1192 : own_Ar Z h1183 rs .int cap (own_I (own_set gs k (Int32.ofNat i))) := f1176.other W1183 (Ne.symm hn1)
    have f1193 : own_Ar Z h1183 re .int cap (own_I (own_set ge k j)) := f1177.other W1183 (Ne.symm hn2)
    have f1194 : Fld Z h1183 o "com/example/quayside/quayside/Row" "nulls" "[Z" (.ref rn) := f1178.other W1183 (Or.inr (slot_ne (Or.inl (hw _ (List.mem_of_getElem? (i := 65) rfl))) (Or.inl (hw _ (List.mem_of_getElem? (i := 39) rfl))) (by decide) (t := (.array .boolean)) (t' := .boolean) (by decide) (by decide)))
    have f1195 : Fld Z h1183 o "com/example/quayside/quayside/Row" "nullCount" "I" (.int (Int32.ofNat c')) := f1179.other W1183 (Or.inr (slot_ne (Or.inl (hw _ (List.mem_of_getElem? (i := 52) rfl))) (Or.inl (hw _ (List.mem_of_getElem? (i := 39) rfl))) (by decide) (t := .int) (t' := .boolean) (by decide) (by decide)))
    have f1196 : own_Ar Z h1183 rn .boolean mn (own_I g) := f1180.other W1183 (Ne.symm hn7)
    have z1197 : n0 ≤ h1183.size := Nat.le_trans z1181 (Keep.of_wr W1183).1
    have f1198 : Fld Z h1183 o "com/example/quayside/quayside/Row" "text" "Z" (.int (nar .boolean (0 : Int32))) := f1174.same W1183
    have N1183 := Fr.snoc X1183 N1167 hg1
    have f1199 : Fld Z h1183 o "com/example/quayside/quayside/Row" "text" "Z" (.int (0 : Int32)) := f1198
    exact own_retV X1183 hx hlk hret (own_hb hby d5_117) e1183 ⟨rfl, N1183, kx1184, ⟨rs, re, bs, (own_set gs k (Int32.ofNat i)), (own_set ge k j), (0 : Int32), (own_maxI r j), f1186, f1187, f1188, f1189, f1190, f1199, f1191, f1192, f1193, hg1, hg2, hg3, hn1, hn2, hn3, hn4, hn5, hn6, (by omega), (by omega), own_s01 hf01 (Or.inl rfl), Or.inr ⟨rn, mn, c', g, f1194, f1195, f1196, hg4, hn7, hn8, hn9, hn10, (by omega), (by omega), (by omega), own_nD hq1, own_nE hq2, hq3⟩⟩⟩ (by decide) (by decide)
def Q_rm5pg (Z : State) (x : Addr) (o : Addr) (i : Nat) (j : Int32) (k : Nat) (cap : Nat) (f : Nat → Int32) (h0 : Heap) (n0 : Nat) (v : Option Value) (h : Heap) (L : List Loc) : Prop := ∃ cap' : Nat, v = none ∧ Fr n0 L ∧ own_Kx h0 h x ∧ (own_Row Z h n0 x o (k + 1) cap' (own_set f k 0))
set_option maxRecDepth 65536 in
set_option maxHeartbeats 40000000 in
theorem rm5pg (l : Launch) (Z : State) (a0 : Array Value) (hw : ∀ d ∈ tables_1, d.before a0 Z = true) (ws : List Jvm.Cond) (x : Addr) (o : Addr) (i : Nat) (j : Int32) (k : Nat) (cap : Nat) (f : Nat → Int32) (h0 : Heap) (n0 : Nat) (Z0 : n0 ≤ h0.size) (row : own_Row Z h0 n0 x o k cap f) (hk : k ≤ 6) (hi : i < 2 ^ 31) (hij : ¬ j < Int32.ofNat i) (pr4 : own_Lt h0 x) :
    own_Met l Z h0 (⟨"com/example/quayside/quayside/Row", "add", "(II)V"⟩ : MethodName) prog_62_method_3_code 3 none ws ({ frames := 2, cells := 2, slots := 16, locals := 33 } : Room) #[(.ref o), (.int (Int32.ofNat i)), (.int j)] (Q_rm5pg Z x o i j k cap f h0 n0) := by
  refine own_enter (plainFor_of_name pn_5) ?_
  intro p e s m below meth c T0 X0 hx hby hml hret hlk hown hnm hZ e0
  have N0 := Fr.nil n0
  have kx0 : own_Kx h0 h0 x := own_Kx.refl
  rw [show entryFrame m #[(.ref o), (.int (Int32.ofNat i)), (.int j)] 3 = (mkF m 0 #[.val (.ref o), .val (.int (Int32.ofNat i)), .val (.int j)] []) from by first | (simp [entryFrame, mkF, argsToLocals, Value.category]; done) | rfl]
  obtain ⟨rs, re, bs, gs, ge, tx, r, hE, hF1, hF2, hF3, hF4, hF5, hF6, hA1, hA2, hg1, hg2, hg3, hn1, hn2, hn3, hn4, hn5, hn6, hkc, hcap, hf01, hN⟩ := row
  rcases hN with ⟨hm1, hm2, hf0⟩ | ⟨rn, mn, c', g, hm1, hm2, hA3, hg4, hn7, hn8, hn9, hn10, hmn, hmc, hck, hq1, hq2, hq3⟩
  · skip
    by_cases hkk : k < cap
    · skip
      refine own_Go.of (S' := (T0.setTop (mkF m 25 #[.val (.ref o), .val (.int (Int32.ofNat i)), .val (.int j)] [(.ref o)]))) (fun t kt => ?_) ?_
      · show Steps p.tables e below (T0.setTop (mkF m 0 #[.val (.ref o), .val (.int (Int32.ofNat i)), .val (.int j)] [])) _
        refine XS.iloadN X0.here hx rfl (own_hb hby d5_0) rfl ?_
        show Steps p.tables e below (T0.setTop (mkF m 1 #[.val (.ref o), .val (.int (Int32.ofNat i)), .val (.int j)] [(.int (Int32.ofNat i))])) _
        refine XS.ifNo X0.here hx rfl (own_hb hby d5_1) rfl ((if0 _ _).trans (flt (fun q => by have h2 := (own_ltN (b := 0) hi (by decide)).mp q; omega)).1) ?_
        show Steps p.tables e below (T0.setTop (mkF m 4 #[.val (.ref o), .val (.int (Int32.ofNat i)), .val (.int j)] [])) _
        refine XS.iloadN X0.here hx rfl (own_hb hby d5_4) rfl ?_
        show Steps p.tables e below (T0.setTop (mkF m 5 #[.val (.ref o), .val (.int (Int32.ofNat i)), .val (.int j)] [(.int j)])) _
        refine XS.iloadN X0.here hx rfl (own_hb hby d5_5) rfl ?_
        show Steps p.tables e below (T0.setTop (mkF m 6 #[.val (.ref o), .val (.int (Int32.ofNat i)), .val (.int j)] [(.int (Int32.ofNat i)), (.int j)])) _
        refine XS.icmpYes X0.here hx rfl (pc0 := 6) (pc' := 24) rfl (own_hb hby d5_6) rfl (flt hij).2.1 (by decide) (by decide) ?_
        show Steps p.tables e below (T0.setTop (mkF m 24 #[.val (.ref o), .val (.int (Int32.ofNat i)), .val (.int j)] [])) _
        refine XS.aloadN X0.here hx rfl (own_hb hby d5_24) rfl rfl ?_
        exact kt
      obtain ⟨T1200, X1200, e1200, st1200⟩ := getF X0 hx hZ hown (host := "") (Or.inl (hw _ (List.mem_of_getElem? (i := 30) rfl))) Via.refl e0 hF3 (g := (mkF m 25 #[.val (.ref o), .val (.int (Int32.ofNat i)), .val (.int j)] [(.ref o)])) rfl rfl (own_hb hby d5_25)
      refine own_Go.of (S' := (T1200.setTop (mkF m 28 #[.val (.ref o), .val (.int (Int32.ofNat i)), .val (.int j)] [(.int (Int32.ofNat k))]))) st1200 ?_
      refine own_Go.of (S' := (T1200.setTop (mkF m 29 #[.val (.ref o), .val (.int (Int32.ofNat i)), .val (.int j)] [(.ref o), (.int (Int32.ofNat k))]))) (fun t kt => ?_) ?_
      · show Steps p.tables e below (T1200.setTop (mkF m 28 #[.val (.ref o), .val (.int (Int32.ofNat i)), .val (.int j)] [(.int (Int32.ofNat k))])) _
        refine XS.aloadN X1200.here hx rfl (own_hb hby d5_28) rfl rfl ?_
        exact kt
      obtain ⟨T1201, X1201, e1201, st1201⟩ := getF X1200 hx hZ hown (host := "") (Or.inl (hw _ (List.mem_of_getElem? (i := 14) rfl))) Via.refl e1200 hF1 (g := (mkF m 29 #[.val (.ref o), .val (.int (Int32.ofNat i)), .val (.int j)] [(.ref o), (.int (Int32.ofNat k))])) rfl rfl (own_hb hby d5_29)
      refine own_Go.of (S' := (T1201.setTop (mkF m 32 #[.val (.ref o), .val (.int (Int32.ofNat i)), .val (.int j)] [(.ref rs), (.int (Int32.ofNat k))]))) st1201 ?_
      obtain ⟨cl1202, Ar1202, hln1202⟩ := own_Ar.len hA1
      refine own_Go.of (S' := (T1201.setTop (mkF m 71 #[.val (.ref o), .val (.int (Int32.ofNat i)), .val (.int j)] [(.ref o)]))) (fun t kt => ?_) ?_
      · show Steps p.tables e below (T1201.setTop (mkF m 32 #[.val (.ref o), .val (.int (Int32.ofNat i)), .val (.int j)] [(.ref rs), (.int (Int32.ofNat k))])) _
        refine X1201.arraylength hx (by rw [e1201]; exact Ar1202.1) (State.isArrayOf_alike hZ.alike Ar1202.2.1) (g := (mkF m 32 #[.val (.ref o), .val (.int (Int32.ofNat i)), .val (.int j)] [(.ref rs), (.int (Int32.ofNat k))])) rfl rfl (own_hb hby d5_32) _ ?_
        rw [hln1202]
        show Steps p.tables e below (T1201.setTop (mkF m 33 #[.val (.ref o), .val (.int (Int32.ofNat i)), .val (.int j)] [(.int (Int32.ofNat cap)), (.int (Int32.ofNat k))])) _
        refine XS.icmpYes X1201.here hx rfl (pc0 := 33) (pc' := 70) rfl (own_hb hby d5_33) rfl (feq (fun q => by have h2 := (own_eqN (by omega) (by omega)).mp q; omega)).2 (by decide) (by decide) ?_
        show Steps p.tables e below (T1201.setTop (mkF m 70 #[.val (.ref o), .val (.int (Int32.ofNat i)), .val (.int j)] [])) _
        refine XS.aloadN X1201.here hx rfl (own_hb hby d5_70) rfl rfl ?_
        exact kt
      obtain ⟨T1203, X1203, e1203, st1203⟩ := getF X1201 hx hZ hown (host := "") (Or.inl (hw _ (List.mem_of_getElem? (i := 14) rfl))) Via.refl e1201 hF1 (g := (mkF m 71 #[.val (.ref o), .val (.int (Int32.ofNat i)), .val (.int j)] [(.ref o)])) rfl rfl (own_hb hby d5_71)
      refine own_Go.of (S' := (T1203.setTop (mkF m 74 #[.val (.ref o), .val (.int (Int32.ofNat i)), .val (.int j)] [(.ref rs)]))) st1203 ?_
      refine own_Go.of (S' := (T1203.setTop (mkF m 75 #[.val (.ref o), .val (.int (Int32.ofNat i)), .val (.int j)] [(.ref o), (.ref rs)]))) (fun t kt => ?_) ?_
      · show Steps p.tables e below (T1203.setTop (mkF m 74 #[.val (.ref o), .val (.int (Int32.ofNat i)), .val (.int j)] [(.ref rs)])) _
        refine XS.aloadN X1203.here hx rfl (own_hb hby d5_74) rfl rfl ?_
        exact kt
      obtain ⟨T1204, X1204, e1204, st1204⟩ := getF X1203 hx hZ hown (host := "") (Or.inl (hw _ (List.mem_of_getElem? (i := 30) rfl))) Via.refl e1203 hF3 (g := (mkF m 75 #[.val (.ref o), .val (.int (Int32.ofNat i)), .val (.int j)] [(.ref o), (.ref rs)])) rfl rfl (own_hb hby d5_75)
      refine own_Go.of (S' := (T1204.setTop (mkF m 78 #[.val (.ref o), .val (.int (Int32.ofNat i)), .val (.int j)] [(.int (Int32.ofNat k)), (.ref rs)]))) st1204 ?_
      refine own_Go.of (S' := (T1204.setTop (mkF m 79 #[.val (.ref o), .val (.int (Int32.ofNat i)), .val (.int j)] [(.int (Int32.ofNat i)), (.int (Int32.ofNat k)), (.ref rs)]))) (fun t kt => ?_) ?_
      · show Steps p.tables e below (T1204.setTop (mkF m 78 #[.val (.ref o), .val (.int (Int32.ofNat i)), .val (.int j)] [(.int (Int32.ofNat k)), (.ref rs)])) _
        refine XS.iloadN X1204.here hx rfl (own_hb hby d5_78) rfl ?_
        exact kt
      obtain ⟨cl1205, Ar1205, hin1205, ub1205⟩ := own_Ar.put (j := (Int32.ofNat k)) (k := k) hA1 ⟨rfl, by omega⟩
      obtain ⟨T1205, h1205, X1205, e1205, W1205, st1205⟩ := stI X1204 hx hZ e1204 Ar1205 (j := (Int32.ofNat k)) hin1205 (g := (mkF m 79 #[.val (.ref o), .val (.int (Int32.ofNat i)), .val (.int j)] [(.int (Int32.ofNat i)), (.int (Int32.ofNat k)), (.ref rs)])) rfl rfl (own_hb hby d5_79)
      refine own_Go.of (S' := (T1205.setTop (mkF m 80 #[.val (.ref o), .val (.int (Int32.ofNat i)), .val (.int j)] []))) st1205 ?_
      have kx1206 : own_Kx h0 h1205 x := kx0.wr W1205 hn5
      have f1207 : own_Lt h1205 x := pr4.wr W1205
      have f1208 : Exa Z h1205 o "com/example/quayside/quayside/Row" := hE.wr W1205
      have f1209 : Fld Z h1205 o "com/example/quayside/quayside/Row" "starts" "[I" (.ref rs) := hF1.other W1205 (Or.inl hn1)
      have f1210 : Fld Z h1205 o "com/example/quayside/quayside/Row" "ends" "[I" (.ref re) := hF2.other W1205 (Or.inl hn1)
      have f1211 : Fld Z h1205 o "com/example/quayside/quayside/Row" "size" "I" (.int (Int32.ofNat k)) := hF3.other W1205 (Or.inl hn1)
      have f1212 : Fld Z h1205 o "com/example/quayside/quayside/Row" "reach" "I" (.int r) := hF4.other W1205 (Or.inl hn1)
      have f1213 : Fld Z h1205 o "com/example/quayside/quayside/Row" "text" "Z" (.int tx) := hF5.other W1205 (Or.inl hn1)
      have f1214 : Fld Z h1205 o "com/example/quayside/quayside/Row" "bytes" "[B" (.ref bs) := hF6.other W1205 (Or.inl hn1)
      have f1215 : own_Ar Z h1205 re .int cap (own_I ge) := hA2.other W1205 (Ne.symm hn3)
      have f1216 : Fld Z h1205 o "com/example/quayside/quayside/Row" "nulls" "[Z" .null := hm1.other W1205 (Or.inl hn1)
      have f1217 : Fld Z h1205 o "com/example/quayside/quayside/Row" "nullCount" "I" (.int (0 : Int32)) := hm2.other W1205 (Or.inl hn1)
      have z1218 : n0 ≤ h1205.size := Nat.le_trans Z0 (Keep.of_wr W1205).1
      have f1219 : own_Ar Z h1205 rs .int cap (own_I (own_set gs k (Int32.ofNat i))) := by rw [← own_upI]; exact ub1205 rfl W1205
      have N1205 := Fr.snoc X1205 N0 hg2
      refine own_Go.of (S' := (T1205.setTop (mkF m 81 #[.val (.ref o), .val (.int (Int32.ofNat i)), .val (.int j)] [(.ref o)]))) (fun t kt => ?_) ?_
      · show Steps p.tables e below (T1205.setTop (mkF m 80 #[.val (.ref o), .val (.int (Int32.ofNat i)), .val (.int j)] [])) _
        refine XS.aloadN X1205.here hx rfl (own_hb hby d5_80) rfl rfl ?_
        exact kt
      obtain ⟨T1220, X1220, e1220, st1220⟩ := getF X1205 hx hZ hown (host := "") (Or.inl (hw _ (List.mem_of_getElem? (i := 16) rfl))) Via.refl e1205 f1210 (g := (mkF m 81 #[.val (.ref o), .val (.int (Int32.ofNat i)), .val (.int j)] [(.ref o)])) rfl rfl (own_hb hby d5_81)
      refine own_Go.of (S' := (T1220.setTop (mkF m 84 #[.val (.ref o), .val (.int (Int32.ofNat i)), .val (.int j)] [(.ref re)]))) st1220 ?_
      refine own_Go.of (S' := (T1220.setTop (mkF m 85 #[.val (.ref o), .val (.int (Int32.ofNat i)), .val (.int j)] [(.ref o), (.ref re)]))) (fun t kt => ?_) ?_
      · show Steps p.tables e below (T1220.setTop (mkF m 84 #[.val (.ref o), .val (.int (Int32.ofNat i)), .val (.int j)] [(.ref re)])) _
        refine XS.aloadN X1220.here hx rfl (own_hb hby d5_84) rfl rfl ?_
        exact kt
      obtain ⟨T1221, X1221, e1221, st1221⟩ := getF X1220 hx hZ hown (host := "") (Or.inl (hw _ (List.mem_of_getElem? (i := 30) rfl))) Via.refl e1220 f1211 (g := (mkF m 85 #[.val (.ref o), .val (.int (Int32.ofNat i)), .val (.int j)] [(.ref o), (.ref re)])) rfl rfl (own_hb hby d5_85)
      refine own_Go.of (S' := (T1221.setTop (mkF m 88 #[.val (.ref o), .val (.int (Int32.ofNat i)), .val (.int j)] [(.int (Int32.ofNat k)), (.ref re)]))) st1221 ?_
      refine own_Go.of (S' := (T1221.setTop (mkF m 89 #[.val (.ref o), .val (.int (Int32.ofNat i)), .val (.int j)] [(.int j), (.int (Int32.ofNat k)), (.ref re)]))) (fun t kt => ?_) ?_
      · show Steps p.tables e below (T1221.setTop (mkF m 88 #[.val (.ref o), .val (.int (Int32.ofNat i)), .val (.int j)] [(.int (Int32.ofNat k)), (.ref re)])) _
        refine XS.iloadN X1221.here hx rfl (own_hb hby d5_88) rfl ?_
        exact kt
      obtain ⟨cl1222, Ar1222, hin1222, ub1222⟩ := own_Ar.put (j := (Int32.ofNat k)) (k := k) f1215 ⟨rfl, by omega⟩
      obtain ⟨T1222, h1222, X1222, e1222, W1222, st1222⟩ := stI X1221 hx hZ e1221 Ar1222 (j := (Int32.ofNat k)) hin1222 (g := (mkF m 89 #[.val (.ref o), .val (.int (Int32.ofNat i)), .val (.int j)] [(.int j), (.int (Int32.ofNat k)), (.ref re)])) rfl rfl (own_hb hby d5_89)
      refine own_Go.of (S' := (T1222.setTop (mkF m 90 #[.val (.ref o), .val (.int (Int32.ofNat i)), .val (.int j)] []))) st1222 ?_
      have kx1223 : own_Kx h0 h1222 x := kx1206.wr W1222 hn6
      have f1224 : own_Lt h1222 x := f1207.wr W1222
      have f1225 : Exa Z h1222 o "com/example/quayside/quayside/Row" := f1208.wr W1222
      have f1226 : Fld Z h1222 o "com/example/quayside/quayside/Row" "starts" "[I" (.ref rs) := f1209.other W1222 (Or.inl hn2)
      have f1227 : Fld Z h1222 o "com/example/quayside/quayside/Row" "ends" "[I" (.ref re) := f1210.other W1222 (Or.inl hn2)
      have f1228 : Fld Z h1222 o "com/example/quayside/quayside/Row" "size" "I" (.int (Int32.ofNat k)) := f1211.other W1222 (Or.inl hn2)
      have f1229 : Fld Z h1222 o "com/example/quayside/quayside/Row" "reach" "I" (.int r) := f1212.other W1222 (Or.inl hn2)
      have f1230 : Fld Z h1222 o "com/example/quayside/quayside/Row" "text" "Z" (.int tx) := f1213.other W1222 (Or.inl hn2)
      have f1231 : Fld Z h1222 o "com/example/quayside/quayside/Row" "bytes" "[B" (.ref bs) := f1214.other W1222 (Or.inl hn2)
      have f1232 : own_Ar Z h1222 rs .int cap (own_I (own_set gs k (Int32.ofNat i))) := f1219.other W1222 hn3
      have f1233 : Fld Z h1222 o "com/example/quayside/quayside/Row" "nulls" "[Z" .null := f1216.other W1222 (Or.inl hn2)
      have f1234 : Fld Z h1222 o "com/example/quayside/quayside/Row" "nullCount" "I" (.int (0 : Int32)) := f1217.other W1222 (Or.inl hn2)
      have z1235 : n0 ≤ h1222.size := Nat.le_trans z1218 (Keep.of_wr W1222).1
      have f1236 : own_Ar Z h1222 re .int cap (own_I (own_set ge k j)) := by rw [← own_upI]; exact ub1222 rfl W1222
      have N1222 := Fr.snoc X1222 N1205 hg3
      refine own_Go.of (S' := (T1222.setTop (mkF m 92 #[.val (.ref o), .val (.int (Int32.ofNat i)), .val (.int j)] [(.ref o), (.ref o)]))) (fun t kt => ?_) ?_
      · show Steps p.tables e below (T1222.setTop (mkF m 90 #[.val (.ref o), .val (.int (Int32.ofNat i)), .val (.int j)] [])) _
        refine XS.aloadN X1222.here hx rfl (own_hb hby d5_90) rfl rfl ?_
        show Steps p.tables e below (T1222.setTop (mkF m 91 #[.val (.ref o), .val (.int (Int32.ofNat i)), .val (.int j)] [(.ref o)])) _
        refine XS.dup X1222.here hx rfl (own_hb hby d5_91) rfl rfl ?_
        exact kt
      obtain ⟨T1237, X1237, e1237, st1237⟩ := getF X1222 hx hZ hown (host := "") (Or.inl (hw _ (List.mem_of_getElem? (i := 30) rfl))) Via.refl e1222 f1228 (g := (mkF m 92 #[.val (.ref o), .val (.int (Int32.ofNat i)), .val (.int j)] [(.ref o), (.ref o)])) rfl rfl (own_hb hby d5_92)
      refine own_Go.of (S' := (T1237.setTop (mkF m 95 #[.val (.ref o), .val (.int (Int32.ofNat i)), .val (.int j)] [(.int (Int32.ofNat k)), (.ref o)]))) st1237 ?_
      refine own_Go.of (S' := (T1237.setTop (mkF m 97 #[.val (.ref o), .val (.int (Int32.ofNat i)), .val (.int j)] [(.int (Int32.ofNat (k + 1))), (.ref o)]))) (fun t kt => ?_) ?_
      · show Steps p.tables e below (T1237.setTop (mkF m 95 #[.val (.ref o), .val (.int (Int32.ofNat i)), .val (.int j)] [(.int (Int32.ofNat k)), (.ref o)])) _
        refine XS.iconst X1237.here hx rfl (own_hb hby d5_95) ?_
        show Steps p.tables e below (T1237.setTop (mkF m 96 #[.val (.ref o), .val (.int (Int32.ofNat i)), .val (.int j)] [(.int (1 : Int32)), (.int (Int32.ofNat k)), (.ref o)])) _
        refine XS.iadd X1237.here hx rfl (own_hb hby d5_96) rfl ?_
        show Steps p.tables e below (T1237.setTop (mkF m 97 #[.val (.ref o), .val (.int (Int32.ofNat i)), .val (.int j)] [(.int ((Int32.ofNat k) + (1 : Int32))), (.ref o)])) _
        rw [show Int32.ofNat k + (1 : Int32) = Int32.ofNat (k + 1) from own_addN k 1]
        exact kt
      obtain ⟨T1238, h1238, X1238, e1238, W1238, st1238⟩ := putF X1237 hx hZ hown (host := "") (Or.inl (hw _ (List.mem_of_getElem? (i := 30) rfl))) Via.refl e1237 f1228 f1225 (Or.inl (hw _ (List.mem_of_getElem? (i := 31) rfl))) (hw _ (List.mem_of_getElem? (i := 2) rfl)) (ty := .int) (by decide) rfl rfl (g := (mkF m 97 #[.val (.ref o), .val (.int (Int32.ofNat i)), .val (.int j)] [(.int (Int32.ofNat (k + 1))), (.ref o)])) rfl rfl (own_hb hby d5_97)
      refine own_Go.of (S' := (T1238.setTop (mkF m 100 #[.val (.ref o), .val (.int (Int32.ofNat i)), .val (.int j)] []))) st1238 ?_
      have kx1239 : own_Kx h0 h1238 x := kx1223.wr W1238 hn4
      have f1240 : own_Lt h1238 x := f1224.wr W1238
      have f1241 : Exa Z h1238 o "com/example/quayside/quayside/Row" := f1225.wr W1238
      have f1242 : Fld Z h1238 o "com/example/quayside/quayside/Row" "starts" "[I" (.ref rs) := f1226.other W1238 (Or.inr (slot_ne (Or.inl (hw _ (List.mem_of_getElem? (i := 15) rfl))) (Or.inl (hw _ (List.mem_of_getElem? (i := 31) rfl))) (by decide) (t := (.array .int)) (t' := .int) (by decide) (by decide)))
      have f1243 : Fld Z h1238 o "com/example/quayside/quayside/Row" "ends" "[I" (.ref re) := f1227.other W1238 (Or.inr (slot_ne (Or.inl (hw _ (List.mem_of_getElem? (i := 17) rfl))) (Or.inl (hw _ (List.mem_of_getElem? (i := 31) rfl))) (by decide) (t := (.array .int)) (t' := .int) (by decide) (by decide)))
      have f1244 : Fld Z h1238 o "com/example/quayside/quayside/Row" "reach" "I" (.int r) := f1229.other W1238 (Or.inr (slot_ne (Or.inl (hw _ (List.mem_of_getElem? (i := 33) rfl))) (Or.inl (hw _ (List.mem_of_getElem? (i := 31) rfl))) (by decide) (t := .int) (t' := .int) (by decide) (by decide)))
      have f1245 : Fld Z h1238 o "com/example/quayside/quayside/Row" "text" "Z" (.int tx) := f1230.other W1238 (Or.inr (slot_ne (Or.inl (hw _ (List.mem_of_getElem? (i := 39) rfl))) (Or.inl (hw _ (List.mem_of_getElem? (i := 31) rfl))) (by decide) (t := .boolean) (t' := .int) (by decide) (by decide)))
      have f1246 : Fld Z h1238 o "com/example/quayside/quayside/Row" "bytes" "[B" (.ref bs) := f1231.other W1238 (Or.inr (slot_ne (Or.inl (hw _ (List.mem_of_getElem? (i := 12) rfl))) (Or.inl (hw _ (List.mem_of_getElem? (i := 31) rfl))) (by decide) (t := (.array .byte)) (t' := .int) (by decide) (by decide)))
      have f1247 : own_Ar Z h1238 rs .int cap (own_I (own_set gs k (Int32.ofNat i))) := f1232.other W1238 (Ne.symm hn1)
      have f1248 : own_Ar Z h1238 re .int cap (own_I (own_set ge k j)) := f1236.other W1238 (Ne.symm hn2)
      have f1249 : Fld Z h1238 o "com/example/quayside/quayside/Row" "nulls" "[Z" .null := f1233.other W1238 (Or.inr (slot_ne (Or.inl (hw _ (List.mem_of_getElem? (i := 65) rfl))) (Or.inl (hw _ (List.mem_of_getElem? (i := 31) rfl))) (by decide) (t := (.array .boolean)) (t' := .int) (by decide) (by decide)))
      have f1250 : Fld Z h1238 o "com/example/quayside/quayside/Row" "nullCount" "I" (.int (0 : Int32)) := f1234.other W1238 (Or.inr (slot_ne (Or.inl (hw _ (List.mem_of_getElem? (i := 52) rfl))) (Or.inl (hw _ (List.mem_of_getElem? (i := 31) rfl))) (by decide) (t := .int) (t' := .int) (by decide) (by decide)))
      have z1251 : n0 ≤ h1238.size := Nat.le_trans z1235 (Keep.of_wr W1238).1
      have f1252 : Fld Z h1238 o "com/example/quayside/quayside/Row" "size" "I" (.int (Int32.ofNat (k + 1))) := f1228.same W1238
      have N1238 := Fr.snoc X1238 N1222 hg1
      refine own_Go.of (S' := (T1238.setTop (mkF m 102 #[.val (.ref o), .val (.int (Int32.ofNat i)), .val (.int j)] [(.ref o), (.ref o)]))) (fun t kt => ?_) ?_
      · show Steps p.tables e below (T1238.setTop (mkF m 100 #[.val (.ref o), .val (.int (Int32.ofNat i)), .val (.int j)] [])) _
        refine XS.aloadN X1238.here hx rfl (own_hb hby d5_100) rfl rfl ?_
        show Steps p.tables e below (T1238.setTop (mkF m 101 #[.val (.ref o), .val (.int (Int32.ofNat i)), .val (.int j)] [(.ref o)])) _
        refine XS.aloadN X1238.here hx rfl (own_hb hby d5_101) rfl rfl ?_
        exact kt
      obtain ⟨T1253, X1253, e1253, st1253⟩ := getF X1238 hx hZ hown (host := "") (Or.inl (hw _ (List.mem_of_getElem? (i := 32) rfl))) Via.refl e1238 f1244 (g := (mkF m 102 #[.val (.ref o), .val (.int (Int32.ofNat i)), .val (.int j)] [(.ref o), (.ref o)])) rfl rfl (own_hb hby d5_102)
      refine own_Go.of (S' := (T1253.setTop (mkF m 105 #[.val (.ref o), .val (.int (Int32.ofNat i)), .val (.int j)] [(.int r), (.ref o)]))) st1253 ?_
      refine own_Go.of (S' := (T1253.setTop (mkF m 106 #[.val (.ref o), .val (.int (Int32.ofNat i)), .val (.int j)] [(.int j), (.int r), (.ref o)]))) (fun t kt => ?_) ?_
      · show Steps p.tables e below (T1253.setTop (mkF m 105 #[.val (.ref o), .val (.int (Int32.ofNat i)), .val (.int j)] [(.int r), (.ref o)])) _
        refine XS.iloadN X1253.here hx rfl (own_hb hby d5_105) rfl ?_
        exact kt
      obtain ⟨_, _, ⟨T1254, L1254, k1254, n1254⟩, -, X1254, ⟨Lc1254, hQ1254, l1254, y1254, z1254⟩, st1254⟩ := Jvm.LawKit.callS X1253 hx (y := (⟨"java/lang/Math", "max", "(II)I"⟩ : MethodName)) hown (mvT hZ (hw _ (List.mem_of_getElem? (i := 34) rfl))) (mvT hZ (hw _ (List.mem_of_getElem? (i := 35) rfl))) (mvT hZ (hw _ (List.mem_of_getElem? (i := 36) rfl))) (mvT hZ (hw _ (List.mem_of_getElem? (i := 37) rfl))) (by decide) (backOf (W := 1) (rm6 l Z a0 hw [] r j h1238 n0 z1251 ) hZ (hw _ (List.mem_of_getElem? (i := 37) rfl)) (hw _ (List.mem_of_getElem? (i := 36) rfl)) (by decide) (by decide)) (g := (mkF m 106 #[.val (.ref o), .val (.int (Int32.ofNat i)), .val (.int j)] [(.int j), (.int r), (.ref o)])) rfl (by rw [hml]; rfl) (argsL := [(.int r), (.int j)]) (rest := [(.ref o)]) (lenOf pd_0 rfl) rfl (by show 2 * 0 + _ ≤ _; exact Nat.le_of_eq rfl) (own_hb hby d5_106) (fun _ _ => ⟨rfl, e1253, (by decide : 0 + 0 ≤ _), (by decide : 0 + 0 ≤ _)⟩)
      dsimp only [Pt.U, Pt.locs, Pt.cells, Pt.slots] at X1254 l1254 y1254 z1254 st1254 hQ1254
      subst l1254 y1254 z1254
      obtain ⟨rfl, N1254q, hh1254⟩ := hQ1254
      have N1254 := Fr.app N1238 N1254q
      refine own_Go.of (S' := (T1254.setTop (mkF m 109 #[.val (.ref o), .val (.int (Int32.ofNat i)), .val (.int j)] [(.int (own_maxI r j)), (.ref o)]))) (fun t kt => st1254 t kt) ?_
      obtain ⟨T1255, h1255, X1255, e1255, W1255, st1255⟩ := putF X1254 hx hZ hown (host := "") (Or.inl (hw _ (List.mem_of_getElem? (i := 32) rfl))) Via.refl hh1254 f1244 f1241 (Or.inl (hw _ (List.mem_of_getElem? (i := 33) rfl))) (hw _ (List.mem_of_getElem? (i := 2) rfl)) (ty := .int) (by decide) rfl rfl (g := (mkF m 109 #[.val (.ref o), .val (.int (Int32.ofNat i)), .val (.int j)] [(.int (own_maxI r j)), (.ref o)])) rfl rfl (own_hb hby d5_109)
      refine own_Go.of (S' := (T1255.setTop (mkF m 112 #[.val (.ref o), .val (.int (Int32.ofNat i)), .val (.int j)] []))) st1255 ?_
      have kx1256 : own_Kx h0 h1255 x := kx1239.wr W1255 hn4
      have f1257 : own_Lt h1255 x := f1240.wr W1255
      have f1258 : Exa Z h1255 o "com/example/quayside/quayside/Row" := f1241.wr W1255
      have f1259 : Fld Z h1255 o "com/example/quayside/quayside/Row" "starts" "[I" (.ref rs) := f1242.other W1255 (Or.inr (slot_ne (Or.inl (hw _ (List.mem_of_getElem? (i := 15) rfl))) (Or.inl (hw _ (List.mem_of_getElem? (i := 33) rfl))) (by decide) (t := (.array .int)) (t' := .int) (by decide) (by decide)))
      have f1260 : Fld Z h1255 o "com/example/quayside/quayside/Row" "ends" "[I" (.ref re) := f1243.other W1255 (Or.inr (slot_ne (Or.inl (hw _ (List.mem_of_getElem? (i := 17) rfl))) (Or.inl (hw _ (List.mem_of_getElem? (i := 33) rfl))) (by decide) (t := (.array .int)) (t' := .int) (by decide) (by decide)))
      have f1261 : Fld Z h1255 o "com/example/quayside/quayside/Row" "size" "I" (.int (Int32.ofNat (k + 1))) := f1252.other W1255 (Or.inr (slot_ne (Or.inl (hw _ (List.mem_of_getElem? (i := 31) rfl))) (Or.inl (hw _ (List.mem_of_getElem? (i := 33) rfl))) (by decide) (t := .int) (t' := .int) (by decide) (by decide)))
      have f1262 : Fld Z h1255 o "com/example/quayside/quayside/Row" "text" "Z" (.int tx) := f1245.other W1255 (Or.inr (slot_ne (Or.inl (hw _ (List.mem_of_getElem? (i := 39) rfl))) (Or.inl (hw _ (List.mem_of_getElem? (i := 33) rfl))) (by decide) (t := .boolean) (t' := .int) (by decide) (by decide)))
      have f1263 : Fld Z h1255 o "com/example/quayside/quayside/Row" "bytes" "[B" (.ref bs) := f1246.other W1255 (Or.inr (slot_ne (Or.inl (hw _ (List.mem_of_getElem? (i := 12) rfl))) (Or.inl (hw _ (List.mem_of_getElem? (i := 33) rfl))) (by decide) (t := (.array .byte)) (t' := .int) (by decide) (by decide)))
      have f1264 : own_Ar Z h1255 rs .int cap (own_I (own_set gs k (Int32.ofNat i))) := f1247.other W1255 (Ne.symm hn1)
      have f1265 : own_Ar Z h1255 re .int cap (own_I (own_set ge k j)) := f1248.other W1255 (Ne.symm hn2)
      have f1266 : Fld Z h1255 o "com/example/quayside/quayside/Row" "nulls" "[Z" .null := f1249.other W1255 (Or.inr (slot_ne (Or.inl (hw _ (List.mem_of_getElem? (i := 65) rfl))) (Or.inl (hw _ (List.mem_of_getElem? (i := 33) rfl))) (by decide) (t := (.array .boolean)) (t' := .int) (by decide) (by decide)))
      have f1267 : Fld Z h1255 o "com/example/quayside/quayside/Row" "nullCount" "I" (.int (0 : Int32)) := f1250.other W1255 (Or.inr (slot_ne (Or.inl (hw _ (List.mem_of_getElem? (i := 52) rfl))) (Or.inl (hw _ (List.mem_of_getElem? (i := 33) rfl))) (by decide) (t := .int) (t' := .int) (by decide) (by decide)))
      have z1268 : n0 ≤ h1255.size := Nat.le_trans z1251 (Keep.of_wr W1255).1
      have f1269 : Fld Z h1255 o "com/example/quayside/quayside/Row" "reach" "I" (.int (own_maxI r j)) := f1244.same W1255
      have N1255 := Fr.snoc X1255 N1254 hg1
      refine own_Go.of (S' := (T1255.setTop (mkF m 114 #[.val (.ref o), .val (.int (Int32.ofNat i)), .val (.int j)] [(.int (0 : Int32)), (.ref o)]))) (fun t kt => ?_) ?_
      · show Steps p.tables e below (T1255.setTop (mkF m 112 #[.val (.ref o), .val (.int (Int32.ofNat i)), .val (.int j)] [])) _
        refine XS.aloadN X1255.here hx rfl (own_hb hby d5_112) rfl rfl ?_
        show Steps p.tables e below (T1255.setTop (mkF m 113 #[.val (.ref o), .val (.int (Int32.ofNat i)), .val (.int j)] [(.ref o)])) _
        refine XS.iconst X1255.here hx rfl (own_hb hby d5_113) ?_
        exact kt
      obtain ⟨T1270, h1270, X1270, e1270, W1270, st1270⟩ := putFN X1255 hx hZ hown (hw _ (List.mem_of_getElem? (i := 38) rfl)) Via.refl e1255 f1262 f1258 (Or.inl (hw _ (List.mem_of_getElem? (i := 39) rfl))) (hw _ (List.mem_of_getElem? (i := 2) rfl)) (ty := .boolean) (v' := (.int (nar .boolean (0 : Int32)))) (by decide) rfl (fits_nar_bool _) (g := (mkF m 114 #[.val (.ref o), .val (.int (Int32.ofNat i)), .val (.int j)] [(.int (0 : Int32)), (.ref o)])) rfl rfl (own_hb hby d5_114)
      refine own_Go.of (S' := (T1270.setTop (mkF m 117 #[.val (.ref o), .val (.int (Int32.ofNat i)), .val (.int j)] []))) st1270 ?_
      have kx1271 : own_Kx h0 h1270 x := kx1256.wr W1270 hn4
      have f1272 : own_Lt h1270 x := f1257.wr W1270
      have f1273 : Exa Z h1270 o "com/example/quayside/quayside/Row" := f1258.wr W1270
      have f1274 : Fld Z h1270 o "com/example/quayside/quayside/Row" "starts" "[I" (.ref rs) := f1259.other W1270 (Or.inr (slot_ne (Or.inl (hw _ (List.mem_of_getElem? (i := 15) rfl))) (Or.inl (hw _ (List.mem_of_getElem? (i := 39) rfl))) (by decide) (t := (.array .int)) (t' := .boolean) (by decide) (by decide)))
      have f1275 : Fld Z h1270 o "com/example/quayside/quayside/Row" "ends" "[I" (.ref re) := f1260.other W1270 (Or.inr (slot_ne (Or.inl (hw _ (List.mem_of_getElem? (i := 17) rfl))) (Or.inl (hw _ (List.mem_of_getElem? (i := 39) rfl))) (by decide) (t := (.array .int)) (t' := .boolean) (by decide) (by decide)))
      have f1276 : Fld Z h1270 o "com/example/quayside/quayside/Row" "size" "I" (.int (Int32.ofNat (k + 1))) := f1261.other W1270 (Or.inr (slot_ne (Or.inl (hw _ (List.mem_of_getElem? (i := 31) rfl))) (Or.inl (hw _ (List.mem_of_getElem? (i := 39) rfl))) (by decide) (t := .int) (t' := .boolean) (by decide) (by decide)))
      have f1277 : Fld Z h1270 o "com/example/quayside/quayside/Row" "reach" "I" (.int (own_maxI r j)) := f1269.other W1270 (Or.inr (slot_ne (Or.inl (hw _ (List.mem_of_getElem? (i := 33) rfl))) (Or.inl (hw _ (List.mem_of_getElem? (i := 39) rfl))) (by decide) (t := .int) (t' := .boolean) (by decide) (by decide)))
      have f1278 : Fld Z h1270 o "com/example/quayside/quayside/Row" "bytes" "[B" (.ref bs) := f1263.other W1270 (Or.inr (slot_ne (Or.inl (hw _ (List.mem_of_getElem? (i := 12) rfl))) (Or.inl (hw _ (List.mem_of_getElem? (i := 39) rfl))) (by decide) (t := (.array .byte)) (t' := .boolean) (by decide) (by decide)))
      have f1279 : own_Ar Z h1270 rs .int cap (own_I (own_set gs k (Int32.ofNat i))) := f1264.other W1270 (Ne.symm hn1)
      have f1280 : own_Ar Z h1270 re .int cap (own_I (own_set ge k j)) := f1265.other W1270 (Ne.symm hn2)
      have f1281 : Fld Z h1270 o "com/example/quayside/quayside/Row" "nulls" "[Z" .null := f1266.other W1270 (Or.inr (slot_ne (Or.inl (hw _ (List.mem_of_getElem? (i := 65) rfl))) (Or.inl (hw _ (List.mem_of_getElem? (i := 39) rfl))) (by decide) (t := (.array .boolean)) (t' := .boolean) (by decide) (by decide)))
      have f1282 : Fld Z h1270 o "com/example/quayside/quayside/Row" "nullCount" "I" (.int (0 : Int32)) := f1267.other W1270 (Or.inr (slot_ne (Or.inl (hw _ (List.mem_of_getElem? (i := 52) rfl))) (Or.inl (hw _ (List.mem_of_getElem? (i := 39) rfl))) (by decide) (t := .int) (t' := .boolean) (by decide) (by decide)))
      have z1283 : n0 ≤ h1270.size := Nat.le_trans z1268 (Keep.of_wr W1270).1
      have f1284 : Fld Z h1270 o "com/example/quayside/quayside/Row" "text" "Z" (.int (nar .boolean (0 : Int32))) := f1262.same W1270
      have N1270 := Fr.snoc X1270 N1255 hg1
      have f1285 : Fld Z h1270 o "com/example/quayside/quayside/Row" "text" "Z" (.int (0 : Int32)) := f1284
      exact own_retV X1270 hx hlk hret (own_hb hby d5_117) e1270 ⟨cap, rfl, N1270, kx1271, ⟨rs, re, bs, (own_set gs k (Int32.ofNat i)), (own_set ge k j), (0 : Int32), (own_maxI r j), f1273, f1274, f1275, f1276, f1277, f1285, f1278, f1279, f1280, hg1, hg2, hg3, hn1, hn2, hn3, hn4, hn5, hn6, (by omega), (by omega), own_s01 hf01 (Or.inl rfl), Or.inl ⟨f1281, f1282, own_z1 hf0⟩⟩⟩ (by decide) (by decide)
    · skip
      refine own_Go.of (S' := (T0.setTop (mkF m 25 #[.val (.ref o), .val (.int (Int32.ofNat i)), .val (.int j)] [(.ref o)]))) (fun t kt => ?_) ?_
      · show Steps p.tables e below (T0.setTop (mkF m 0 #[.val (.ref o), .val (.int (Int32.ofNat i)), .val (.int j)] [])) _
        refine XS.iloadN X0.here hx rfl (own_hb hby d5_0) rfl ?_
        show Steps p.tables e below (T0.setTop (mkF m 1 #[.val (.ref o), .val (.int (Int32.ofNat i)), .val (.int j)] [(.int (Int32.ofNat i))])) _
        refine XS.ifNo X0.here hx rfl (own_hb hby d5_1) rfl ((if0 _ _).trans (flt (fun q => by have h2 := (own_ltN (b := 0) hi (by decide)).mp q; omega)).1) ?_
        show Steps p.tables e below (T0.setTop (mkF m 4 #[.val (.ref o), .val (.int (Int32.ofNat i)), .val (.int j)] [])) _
        refine XS.iloadN X0.here hx rfl (own_hb hby d5_4) rfl ?_
        show Steps p.tables e below (T0.setTop (mkF m 5 #[.val (.ref o), .val (.int (Int32.ofNat i)), .val (.int j)] [(.int j)])) _
        refine XS.iloadN X0.here hx rfl (own_hb hby d5_5) rfl ?_
        show Steps p.tables e below (T0.setTop (mkF m 6 #[.val (.ref o), .val (.int (Int32.ofNat i)), .val (.int j)] [(.int (Int32.ofNat i)), (.int j)])) _
        refine XS.icmpYes X0.here hx rfl (pc0 := 6) (pc' := 24) rfl (own_hb hby d5_6) rfl (flt hij).2.1 (by decide) (by decide) ?_
        show Steps p.tables e below (T0.setTop (mkF m 24 #[.val (.ref o), .val (.int (Int32.ofNat i)), .val (.int j)] [])) _
        refine XS.aloadN X0.here hx rfl (own_hb hby d5_24) rfl rfl ?_
        exact kt
      obtain ⟨T1286, X1286, e1286, st1286⟩ := getF X0 hx hZ hown (host := "") (Or.inl (hw _ (List.mem_of_getElem? (i := 30) rfl))) Via.refl e0 hF3 (g := (mkF m 25 #[.val (.ref o), .val (.int (Int32.ofNat i)), .val (.int j)] [(.ref o)])) rfl rfl (own_hb hby d5_25)
      refine own_Go.of (S' := (T1286.setTop (mkF m 28 #[.val (.ref o), .val (.int (Int32.ofNat i)), .val (.int j)] [(.int (Int32.ofNat k))]))) st1286 ?_
      refine own_Go.of (S' := (T1286.setTop (mkF m 29 #[.val (.ref o), .val (.int (Int32.ofNat i)), .val (.int j)] [(.ref o), (.int (Int32.ofNat k))]))) (fun t kt => ?_) ?_
      · show Steps p.tables e below (T1286.setTop (mkF m 28 #[.val (.ref o), .val (.int (Int32.ofNat i)), .val (.int j)] [(.int (Int32.ofNat k))])) _
        refine XS.aloadN X1286.here hx rfl (own_hb hby d5_28) rfl rfl ?_
        exact kt
      obtain ⟨T1287, X1287, e1287, st1287⟩ := getF X1286 hx hZ hown (host := "") (Or.inl (hw _ (List.mem_of_getElem? (i := 14) rfl))) Via.refl e1286 hF1 (g := (mkF m 29 #[.val (.ref o), .val (.int (Int32.ofNat i)), .val (.int j)] [(.ref o), (.int (Int32.ofNat k))])) rfl rfl (own_hb hby d5_29)
      refine own_Go.of (S' := (T1287.setTop (mkF m 32 #[.val (.ref o), .val (.int (Int32.ofNat i)), .val (.int j)] [(.ref rs), (.int (Int32.ofNat k))]))) st1287 ?_
      obtain ⟨cl1288, Ar1288, hln1288⟩ := own_Ar.len hA1
      refine own_Go.of (S' := (T1287.setTop (mkF m 38 #[.val (.ref o), .val (.int (Int32.ofNat i)), .val (.int j)] [(.ref o), (.ref o)]))) (fun t kt => ?_) ?_
      · show Steps p.tables e below (T1287.setTop (mkF m 32 #[.val (.ref o), .val (.int (Int32.ofNat i)), .val (.int j)] [(.ref rs), (.int (Int32.ofNat k))])) _
        refine X1287.arraylength hx (by rw [e1287]; exact Ar1288.1) (State.isArrayOf_alike hZ.alike Ar1288.2.1) (g := (mkF m 32 #[.val (.ref o), .val (.int (Int32.ofNat i)), .val (.int j)] [(.ref rs), (.int (Int32.ofNat k))])) rfl rfl (own_hb hby d5_32) _ ?_
        rw [hln1288]
        show Steps p.tables e below (T1287.setTop (mkF m 33 #[.val (.ref o), .val (.int (Int32.ofNat i)), .val (.int j)] [(.int (Int32.ofNat cap)), (.int (Int32.ofNat k))])) _
        refine XS.icmpNo X1287.here hx rfl (own_hb hby d5_33) rfl (teq (own_eqN' (by omega))).2 ?_
        show Steps p.tables e below (T1287.setTop (mkF m 36 #[.val (.ref o), .val (.int (Int32.ofNat i)), .val (.int j)] [])) _
        refine XS.aloadN X1287.here hx rfl (own_hb hby d5_36) rfl rfl ?_
        show Steps p.tables e below (T1287.setTop (mkF m 37 #[.val (.ref o), .val (.int (Int32.ofNat i)), .val (.int j)] [(.ref o)])) _
        refine XS.aloadN X1287.here hx rfl (own_hb hby d5_37) rfl rfl ?_
        exact kt
      obtain ⟨T1289, X1289, e1289, st1289⟩ := getF X1287 hx hZ hown (host := "") (Or.inl (hw _ (List.mem_of_getElem? (i := 14) rfl))) Via.refl e1287 hF1 (g := (mkF m 38 #[.val (.ref o), .val (.int (Int32.ofNat i)), .val (.int j)] [(.ref o), (.ref o)])) rfl rfl (own_hb hby d5_38)
      refine own_Go.of (S' := (T1289.setTop (mkF m 41 #[.val (.ref o), .val (.int (Int32.ofNat i)), .val (.int j)] [(.ref rs), (.ref o)]))) st1289 ?_
      refine own_Go.of (S' := (T1289.setTop (mkF m 43 #[.val (.ref o), .val (.int (Int32.ofNat i)), .val (.int j)] [(.ref o), (.int (2 : Int32)), (.ref rs), (.ref o)]))) (fun t kt => ?_) ?_
      · show Steps p.tables e below (T1289.setTop (mkF m 41 #[.val (.ref o), .val (.int (Int32.ofNat i)), .val (.int j)] [(.ref rs), (.ref o)])) _
        refine XS.iconst X1289.here hx rfl (own_hb hby d5_41) ?_
        show Steps p.tables e below (T1289.setTop (mkF m 42 #[.val (.ref o), .val (.int (Int32.ofNat i)), .val (.int j)] [(.int (2 : Int32)), (.ref rs), (.ref o)])) _
        refine XS.aloadN X1289.here hx rfl (own_hb hby d5_42) rfl rfl ?_
        exact kt
      obtain ⟨T1290, X1290, e1290, st1290⟩ := getF X1289 hx hZ hown (host := "") (Or.inl (hw _ (List.mem_of_getElem? (i := 30) rfl))) Via.refl e1289 hF3 (g := (mkF m 43 #[.val (.ref o), .val (.int (Int32.ofNat i)), .val (.int j)] [(.ref o), (.int (2 : Int32)), (.ref rs), (.ref o)])) rfl rfl (own_hb hby d5_43)
      refine own_Go.of (S' := (T1290.setTop (mkF m 46 #[.val (.ref o), .val (.int (Int32.ofNat i)), .val (.int j)] [(.int (Int32.ofNat k)), (.int (2 : Int32)), (.ref rs), (.ref o)]))) st1290 ?_
      refine own_Go.of (S' := (T1290.setTop (mkF m 47 #[.val (.ref o), .val (.int (Int32.ofNat i)), .val (.int j)] [(.int (Int32.ofNat (2 * k))), (.ref rs), (.ref o)]))) (fun t kt => ?_) ?_
      · show Steps p.tables e below (T1290.setTop (mkF m 46 #[.val (.ref o), .val (.int (Int32.ofNat i)), .val (.int j)] [(.int (Int32.ofNat k)), (.int (2 : Int32)), (.ref rs), (.ref o)])) _
        refine XS.imul X1290.here hx rfl (own_hb hby d5_46) rfl ?_
        show Steps p.tables e below (T1290.setTop (mkF m 47 #[.val (.ref o), .val (.int (Int32.ofNat i)), .val (.int j)] [(.int ((2 : Int32) * (Int32.ofNat k))), (.ref rs), (.ref o)])) _
        rw [show (2 : Int32) * Int32.ofNat k = Int32.ofNat (2 * k) from (Int32.ofNat_mul 2 k).symm]
        exact kt
      obtain ⟨_, _, ⟨T1291, L1291, k1291, n1291⟩, -, X1291, ⟨Lc1291, hQ1291, l1291, y1291, z1291⟩, st1291⟩ := Jvm.LawKit.callS X1290 hx (y := (⟨"java/util/Arrays", "copyOf", "([II)[I"⟩ : MethodName)) hown (mvT hZ (hw _ (List.mem_of_getElem? (i := 77) rfl))) (mvT hZ (hw _ (List.mem_of_getElem? (i := 78) rfl))) (mvT hZ (hw _ (List.mem_of_getElem? (i := 68) rfl))) (mvT hZ (hw _ (List.mem_of_getElem? (i := 79) rfl))) (by decide) (backOf (W := 1) (rm13 l Z a0 hw [] rs (2 * k) cap gs h0 n0 Z0 hA1 (by omega) (by omega)) hZ (hw _ (List.mem_of_getElem? (i := 79) rfl)) (hw _ (List.mem_of_getElem? (i := 68) rfl)) (by decide) (by decide)) (g := (mkF m 47 #[.val (.ref o), .val (.int (Int32.ofNat i)), .val (.int j)] [(.int (Int32.ofNat (2 * k))), (.ref rs), (.ref o)])) rfl (by rw [hml]; rfl) (argsL := [(.ref rs), (.int (Int32.ofNat (2 * k)))]) (rest := [(.ref o)]) (lenOf pd_1 rfl) rfl (by show 2 * 0 + _ ≤ _; exact Nat.le_of_eq rfl) (own_hb hby d5_47) (fun _ _ => ⟨rfl, e1290, (by decide : 0 + 1 ≤ _), (by decide : 0 + 8 ≤ _)⟩)
      dsimp only [Pt.U, Pt.locs, Pt.cells, Pt.slots] at X1291 l1291 y1291 z1291 st1291 hQ1291
      subst l1291 y1291 z1291
      obtain ⟨b1291, rfl, N1291q, K1291, p1291_0, p1291_1⟩ := hQ1291
      have N1291 := Fr.app N0 N1291q
      refine own_Go.of (S' := (T1291.setTop (mkF m 50 #[.val (.ref o), .val (.int (Int32.ofNat i)), .val (.int j)] [(.ref b1291), (.ref o)]))) (fun t kt => st1291 t kt) ?_
      have gx1292 : n0 ≤ b1291 := Nat.le_trans Z0 p1291_0
      have ne1293 : x ≠ b1291 := Nat.ne_of_lt (Nat.lt_of_lt_of_le pr4.lt p1291_0)
      have ne1294 : o ≠ b1291 := Nat.ne_of_lt (Nat.lt_of_lt_of_le hE.lt p1291_0)
      have ne1295 : rs ≠ b1291 := Nat.ne_of_lt (Nat.lt_of_lt_of_le hA1.lt p1291_0)
      have ne1296 : re ≠ b1291 := Nat.ne_of_lt (Nat.lt_of_lt_of_le hA2.lt p1291_0)
      have kx1297 : own_Kx h0 T1291.heap x := kx0.keep K1291 nin0
      have f1298 : own_Lt T1291.heap x := pr4.keep K1291
      have f1299 : Exa Z T1291.heap o "com/example/quayside/quayside/Row" := hE.keep K1291
      have f1300 : Fld Z T1291.heap o "com/example/quayside/quayside/Row" "starts" "[I" (.ref rs) := hF1.keep K1291 nin0
      have f1301 : Fld Z T1291.heap o "com/example/quayside/quayside/Row" "ends" "[I" (.ref re) := hF2.keep K1291 nin0
      have f1302 : Fld Z T1291.heap o "com/example/quayside/quayside/Row" "size" "I" (.int (Int32.ofNat k)) := hF3.keep K1291 nin0
      have f1303 : Fld Z T1291.heap o "com/example/quayside/quayside/Row" "reach" "I" (.int r) := hF4.keep K1291 nin0
      have f1304 : Fld Z T1291.heap o "com/example/quayside/quayside/Row" "text" "Z" (.int tx) := hF5.keep K1291 nin0
      have f1305 : Fld Z T1291.heap o "com/example/quayside/quayside/Row" "bytes" "[B" (.ref bs) := hF6.keep K1291 nin0
      have f1306 : own_Ar Z T1291.heap rs .int cap (own_I gs) := hA1.keep K1291 nin0
      have f1307 : own_Ar Z T1291.heap re .int cap (own_I ge) := hA2.keep K1291 nin0
      have f1308 : Fld Z T1291.heap o "com/example/quayside/quayside/Row" "nulls" "[Z" .null := hm1.keep K1291 nin0
      have f1309 : Fld Z T1291.heap o "com/example/quayside/quayside/Row" "nullCount" "I" (.int (0 : Int32)) := hm2.keep K1291 nin0
      have z1310 : n0 ≤ T1291.heap.size := Nat.le_trans Z0 K1291.1
      obtain ⟨T1311, h1311, X1311, e1311, W1311, st1311⟩ := putF X1291 hx hZ hown (host := "") (Or.inl (hw _ (List.mem_of_getElem? (i := 14) rfl))) Via.refl rfl f1300 f1299 (Or.inl (hw _ (List.mem_of_getElem? (i := 15) rfl))) (hw _ (List.mem_of_getElem? (i := 2) rfl)) (ty := (.array .int)) (by decide) rfl rfl (g := (mkF m 50 #[.val (.ref o), .val (.int (Int32.ofNat i)), .val (.int j)] [(.ref b1291), (.ref o)])) rfl rfl (own_hb hby d5_50)
      refine own_Go.of (S' := (T1311.setTop (mkF m 53 #[.val (.ref o), .val (.int (Int32.ofNat i)), .val (.int j)] []))) st1311 ?_
      have kx1312 : own_Kx h0 h1311 x := kx1297.wr W1311 hn4
      have f1313 : own_Lt h1311 x := f1298.wr W1311
      have f1314 : Exa Z h1311 o "com/example/quayside/quayside/Row" := f1299.wr W1311
      have f1315 : Fld Z h1311 o "com/example/quayside/quayside/Row" "ends" "[I" (.ref re) := f1301.other W1311 (Or.inr (slot_ne (Or.inl (hw _ (List.mem_of_getElem? (i := 17) rfl))) (Or.inl (hw _ (List.mem_of_getElem? (i := 15) rfl))) (by decide) (t := (.array .int)) (t' := (.array .int)) (by decide) (by decide)))
      have f1316 : Fld Z h1311 o "com/example/quayside/quayside/Row" "size" "I" (.int (Int32.ofNat k)) := f1302.other W1311 (Or.inr (slot_ne (Or.inl (hw _ (List.mem_of_getElem? (i := 31) rfl))) (Or.inl (hw _ (List.mem_of_getElem? (i := 15) rfl))) (by decide) (t := .int) (t' := (.array .int)) (by decide) (by decide)))
      have f1317 : Fld Z h1311 o "com/example/quayside/quayside/Row" "reach" "I" (.int r) := f1303.other W1311 (Or.inr (slot_ne (Or.inl (hw _ (List.mem_of_getElem? (i := 33) rfl))) (Or.inl (hw _ (List.mem_of_getElem? (i := 15) rfl))) (by decide) (t := .int) (t' := (.array .int)) (by decide) (by decide)))
      have f1318 : Fld Z h1311 o "com/example/quayside/quayside/Row" "text" "Z" (.int tx) := f1304.other W1311 (Or.inr (slot_ne (Or.inl (hw _ (List.mem_of_getElem? (i := 39) rfl))) (Or.inl (hw _ (List.mem_of_getElem? (i := 15) rfl))) (by decide) (t := .boolean) (t' := (.array .int)) (by decide) (by decide)))
      have f1319 : Fld Z h1311 o "com/example/quayside/quayside/Row" "bytes" "[B" (.ref bs) := f1305.other W1311 (Or.inr (slot_ne (Or.inl (hw _ (List.mem_of_getElem? (i := 12) rfl))) (Or.inl (hw _ (List.mem_of_getElem? (i := 15) rfl))) (by decide) (t := (.array .byte)) (t' := (.array .int)) (by decide) (by decide)))
      have f1320 : own_Ar Z h1311 rs .int cap (own_I gs) := f1306.other W1311 (Ne.symm hn1)
      have f1321 : own_Ar Z h1311 re .int cap (own_I ge) := f1307.other W1311 (Ne.symm hn2)
      have f1322 : Fld Z h1311 o "com/example/quayside/quayside/Row" "nulls" "[Z" .null := f1308.other W1311 (Or.inr (slot_ne (Or.inl (hw _ (List.mem_of_getElem? (i := 65) rfl))) (Or.inl (hw _ (List.mem_of_getElem? (i := 15) rfl))) (by decide) (t := (.array .boolean)) (t' := (.array .int)) (by decide) (by decide)))
      have f1323 : Fld Z h1311 o "com/example/quayside/quayside/Row" "nullCount" "I" (.int (0 : Int32)) := f1309.other W1311 (Or.inr (slot_ne (Or.inl (hw _ (List.mem_of_getElem? (i := 52) rfl))) (Or.inl (hw _ (List.mem_of_getElem? (i := 15) rfl))) (by decide) (t := .int) (t' := (.array .int)) (by decide) (by decide)))
      have f1324 : own_Ar Z h1311 b1291 .int (2 * k) (own_I (own_cpy gs cap)) := p1291_1.other W1311 (Ne.symm ne1294)
      have z1325 : n0 ≤ h1311.size := Nat.le_trans z1310 (Keep.of_wr W1311).1
      have f1326 : Fld Z h1311 o "com/example/quayside/quayside/Row" "starts" "[I" (.ref b1291) := f1300.same W1311
      have N1311 := Fr.snoc X1311 N1291 hg1
      refine own_Go.of (S' := (T1311.setTop (mkF m 55 #[.val (.ref o), .val (.int (Int32.ofNat i)), .val (.int j)] [(.ref o), (.ref o)]))) (fun t kt => ?_) ?_
      · show Steps p.tables e below (T1311.setTop (mkF m 53 #[.val (.ref o), .val (.int (Int32.ofNat i)), .val (.int j)] [])) _
        refine XS.aloadN X1311.here hx rfl (own_hb hby d5_53) rfl rfl ?_
        show Steps p.tables e below (T1311.setTop (mkF m 54 #[.val (.ref o), .val (.int (Int32.ofNat i)), .val (.int j)] [(.ref o)])) _
        refine XS.aloadN X1311.here hx rfl (own_hb hby d5_54) rfl rfl ?_
        exact kt
      obtain ⟨T1327, X1327, e1327, st1327⟩ := getF X1311 hx hZ hown (host := "") (Or.inl (hw _ (List.mem_of_getElem? (i := 16) rfl))) Via.refl e1311 f1315 (g := (mkF m 55 #[.val (.ref o), .val (.int (Int32.ofNat i)), .val (.int j)] [(.ref o), (.ref o)])) rfl rfl (own_hb hby d5_55)
      refine own_Go.of (S' := (T1327.setTop (mkF m 58 #[.val (.ref o), .val (.int (Int32.ofNat i)), .val (.int j)] [(.ref re), (.ref o)]))) st1327 ?_
      refine own_Go.of (S' := (T1327.setTop (mkF m 60 #[.val (.ref o), .val (.int (Int32.ofNat i)), .val (.int j)] [(.ref o), (.int (2 : Int32)), (.ref re), (.ref o)]))) (fun t kt => ?_) ?_
      · show Steps p.tables e below (T1327.setTop (mkF m 58 #[.val (.ref o), .val (.int (Int32.ofNat i)), .val (.int j)] [(.ref re), (.ref o)])) _
        refine XS.iconst X1327.here hx rfl (own_hb hby d5_58) ?_
        show Steps p.tables e below (T1327.setTop (mkF m 59 #[.val (.ref o), .val (.int (Int32.ofNat i)), .val (.int j)] [(.int (2 : Int32)), (.ref re), (.ref o)])) _
        refine XS.aloadN X1327.here hx rfl (own_hb hby d5_59) rfl rfl ?_
        exact kt
      obtain ⟨T1328, X1328, e1328, st1328⟩ := getF X1327 hx hZ hown (host := "") (Or.inl (hw _ (List.mem_of_getElem? (i := 30) rfl))) Via.refl e1327 f1316 (g := (mkF m 60 #[.val (.ref o), .val (.int (Int32.ofNat i)), .val (.int j)] [(.ref o), (.int (2 : Int32)), (.ref re), (.ref o)])) rfl rfl (own_hb hby d5_60)
      refine own_Go.of (S' := (T1328.setTop (mkF m 63 #[.val (.ref o), .val (.int (Int32.ofNat i)), .val (.int j)] [(.int (Int32.ofNat k)), (.int (2 : Int32)), (.ref re), (.ref o)]))) st1328 ?_
      refine own_Go.of (S' := (T1328.setTop (mkF m 64 #[.val (.ref o), .val (.int (Int32.ofNat i)), .val (.int j)] [(.int (Int32.ofNat (2 * k))), (.ref re), (.ref o)]))) (fun t kt => ?_) ?_
      · show Steps p.tables e below (T1328.setTop (mkF m 63 #[.val (.ref o), .val (.int (Int32.ofNat i)), .val (.int j)] [(.int (Int32.ofNat k)), (.int (2 : Int32)), (.ref re), (.ref o)])) _
        refine XS.imul X1328.here hx rfl (own_hb hby d5_63) rfl ?_
        show Steps p.tables e below (T1328.setTop (mkF m 64 #[.val (.ref o), .val (.int (Int32.ofNat i)), .val (.int j)] [(.int ((2 : Int32) * (Int32.ofNat k))), (.ref re), (.ref o)])) _
        rw [show (2 : Int32) * Int32.ofNat k = Int32.ofNat (2 * k) from (Int32.ofNat_mul 2 k).symm]
        exact kt
      obtain ⟨_, _, ⟨T1329, L1329, k1329, n1329⟩, -, X1329, ⟨Lc1329, hQ1329, l1329, y1329, z1329⟩, st1329⟩ := Jvm.LawKit.callS X1328 hx (y := (⟨"java/util/Arrays", "copyOf", "([II)[I"⟩ : MethodName)) hown (mvT hZ (hw _ (List.mem_of_getElem? (i := 77) rfl))) (mvT hZ (hw _ (List.mem_of_getElem? (i := 78) rfl))) (mvT hZ (hw _ (List.mem_of_getElem? (i := 68) rfl))) (mvT hZ (hw _ (List.mem_of_getElem? (i := 79) rfl))) (by decide) (backOf (W := 1) (rm13 l Z a0 hw [] re (2 * k) cap ge h1311 n0 z1325 f1321 (by omega) (by omega)) hZ (hw _ (List.mem_of_getElem? (i := 79) rfl)) (hw _ (List.mem_of_getElem? (i := 68) rfl)) (by decide) (by decide)) (g := (mkF m 64 #[.val (.ref o), .val (.int (Int32.ofNat i)), .val (.int j)] [(.int (Int32.ofNat (2 * k))), (.ref re), (.ref o)])) rfl (by rw [hml]; rfl) (argsL := [(.ref re), (.int (Int32.ofNat (2 * k)))]) (rest := [(.ref o)]) (lenOf pd_1 rfl) rfl (by show 2 * 0 + _ ≤ _; exact Nat.le_of_eq rfl) (own_hb hby d5_64) (fun _ _ => ⟨rfl, e1328, (by decide : 1 + 1 ≤ _), (by decide : 8 + 8 ≤ _)⟩)
      dsimp only [Pt.U, Pt.locs, Pt.cells, Pt.slots] at X1329 l1329 y1329 z1329 st1329 hQ1329
      subst l1329 y1329 z1329
      obtain ⟨b1329, rfl, N1329q, K1329, p1329_0, p1329_1⟩ := hQ1329
      have N1329 := Fr.app N1311 N1329q
      refine own_Go.of (S' := (T1329.setTop (mkF m 67 #[.val (.ref o), .val (.int (Int32.ofNat i)), .val (.int j)] [(.ref b1329), (.ref o)]))) (fun t kt => st1329 t kt) ?_
      have gx1330 : n0 ≤ b1329 := Nat.le_trans z1325 p1329_0
      have ne1331 : x ≠ b1329 := Nat.ne_of_lt (Nat.lt_of_lt_of_le f1313.lt p1329_0)
      have ne1332 : o ≠ b1329 := Nat.ne_of_lt (Nat.lt_of_lt_of_le f1314.lt p1329_0)
      have ne1333 : rs ≠ b1329 := Nat.ne_of_lt (Nat.lt_of_lt_of_le f1320.lt p1329_0)
      have ne1334 : re ≠ b1329 := Nat.ne_of_lt (Nat.lt_of_lt_of_le f1321.lt p1329_0)
      have ne1335 : b1291 ≠ b1329 := Nat.ne_of_lt (Nat.lt_of_lt_of_le f1324.lt p1329_0)
      have kx1336 : own_Kx h0 T1329.heap x := kx1312.keep K1329 nin0
      have f1337 : own_Lt T1329.heap x := f1313.keep K1329
      have f1338 : Exa Z T1329.heap o "com/example/quayside/quayside/Row" := f1314.keep K1329
      have f1339 : Fld Z T1329.heap o "com/example/quayside/quayside/Row" "starts" "[I" (.ref b1291) := f1326.keep K1329 nin0
      have f1340 : Fld Z T1329.heap o "com/example/quayside/quayside/Row" "ends" "[I" (.ref re) := f1315.keep K1329 nin0
      have f1341 : Fld Z T1329.heap o "com/example/quayside/quayside/Row" "size" "I" (.int (Int32.ofNat k)) := f1316.keep K1329 nin0
      have f1342 : Fld Z T1329.heap o "com/example/quayside/quayside/Row" "reach" "I" (.int r) := f1317.keep K1329 nin0
      have f1343 : Fld Z T1329.heap o "com/example/quayside/quayside/Row" "text" "Z" (.int tx) := f1318.keep K1329 nin0
      have f1344 : Fld Z T1329.heap o "com/example/quayside/quayside/Row" "bytes" "[B" (.ref bs) := f1319.keep K1329 nin0
      have f1345 : own_Ar Z T1329.heap rs .int cap (own_I gs) := f1320.keep K1329 nin0
      have f1346 : own_Ar Z T1329.heap re .int cap (own_I ge) := f1321.keep K1329 nin0
      have f1347 : Fld Z T1329.heap o "com/example/quayside/quayside/Row" "nulls" "[Z" .null := f1322.keep K1329 nin0
      have f1348 : Fld Z T1329.heap o "com/example/quayside/quayside/Row" "nullCount" "I" (.int (0 : Int32)) := f1323.keep K1329 nin0
      have f1349 : own_Ar Z T1329.heap b1291 .int (2 * k) (own_I (own_cpy gs cap)) := f1324.keep K1329 nin0
      have z1350 : n0 ≤ T1329.heap.size := Nat.le_trans z1325 K1329.1
      obtain ⟨T1351, h1351, X1351, e1351, W1351, st1351⟩ := putF X1329 hx hZ hown (host := "") (Or.inl (hw _ (List.mem_of_getElem? (i := 16) rfl))) Via.refl rfl f1340 f1338 (Or.inl (hw _ (List.mem_of_getElem? (i := 17) rfl))) (hw _ (List.mem_of_getElem? (i := 2) rfl)) (ty := (.array .int)) (by decide) rfl rfl (g := (mkF m 67 #[.val (.ref o), .val (.int (Int32.ofNat i)), .val (.int j)] [(.ref b1329), (.ref o)])) rfl rfl (own_hb hby d5_67)
      refine own_Go.of (S' := (T1351.setTop (mkF m 70 #[.val (.ref o), .val (.int (Int32.ofNat i)), .val (.int j)] []))) st1351 ?_
      have kx1352 : own_Kx h0 h1351 x := kx1336.wr W1351 hn4
      have f1353 : own_Lt h1351 x := f1337.wr W1351
      have f1354 : Exa Z h1351 o "com/example/quayside/quayside/Row" := f1338.wr W1351
      have f1355 : Fld Z h1351 o "com/example/quayside/quayside/Row" "starts" "[I" (.ref b1291) := f1339.other W1351 (Or.inr (slot_ne (Or.inl (hw _ (List.mem_of_getElem? (i := 15) rfl))) (Or.inl (hw _ (List.mem_of_getElem? (i := 17) rfl))) (by decide) (t := (.array .int)) (t' := (.array .int)) (by decide) (by decide)))
      have f1356 : Fld Z h1351 o "com/example/quayside/quayside/Row" "size" "I" (.int (Int32.ofNat k)) := f1341.other W1351 (Or.inr (slot_ne (Or.inl (hw _ (List.mem_of_getElem? (i := 31) rfl))) (Or.inl (hw _ (List.mem_of_getElem? (i := 17) rfl))) (by decide) (t := .int) (t' := (.array .int)) (by decide) (by decide)))
      have f1357 : Fld Z h1351 o "com/example/quayside/quayside/Row" "reach" "I" (.int r) := f1342.other W1351 (Or.inr (slot_ne (Or.inl (hw _ (List.mem_of_getElem? (i := 33) rfl))) (Or.inl (hw _ (List.mem_of_getElem? (i := 17) rfl))) (by decide) (t := .int) (t' := (.array .int)) (by decide) (by decide)))
      have f1358 : Fld Z h1351 o "com/example/quayside/quayside/Row" "text" "Z" (.int tx) := f1343.other W1351 (Or.inr (slot_ne (Or.inl (hw _ (List.mem_of_getElem? (i := 39) rfl))) (Or.inl (hw _ (List.mem_of_getElem? (i := 17) rfl))) (by decide) (t := .boolean) (t' := (.array .int)) (by decide) (by decide)))
      have f1359 : Fld Z h1351 o "com/example/quayside/quayside/Row" "bytes" "[B" (.ref bs) := f1344.other W1351 (Or.inr (slot_ne (Or.inl (hw _ (List.mem_of_getElem? (i := 12) rfl))) (Or.inl (hw _ (List.mem_of_getElem? (i := 17) rfl))) (by decide) (t := (.array .byte)) (t' := (.array .int)) (by decide) (by decide)))
      have f1360 : own_Ar Z h1351 rs .int cap (own_I gs) := f1345.other W1351 (Ne.symm hn1)
      have f1361 : own_Ar Z h1351 re .int cap (own_I ge) := f1346.other W1351 (Ne.symm hn2)
      have f1362 : Fld Z h1351 o "com/example/quayside/quayside/Row" "nulls" "[Z" .null := f1347.other W1351 (Or.inr (slot_ne (Or.inl (hw _ (List.mem_of_getElem? (i := 65) rfl))) (Or.inl (hw _ (List.mem_of_getElem? (i := 17) rfl))) (by decide) (t := (.array .boolean)) (t' := (.array .int)) (by decide) (by decide)))
      have f1363 : Fld Z h1351 o "com/example/quayside/quayside/Row" "nullCount" "I" (.int (0 : Int32)) := f1348.other W1351 (Or.inr (slot_ne (Or.inl (hw _ (List.mem_of_getElem? (i := 52) rfl))) (Or.inl (hw _ (List.mem_of_getElem? (i := 17) rfl))) (by decide) (t := .int) (t' := (.array .int)) (by decide) (by decide)))
      have f1364 : own_Ar Z h1351 b1291 .int (2 * k) (own_I (own_cpy gs cap)) := f1349.other W1351 (Ne.symm ne1294)
      have f1365 : own_Ar Z h1351 b1329 .int (2 * k) (own_I (own_cpy ge cap)) := p1329_1.other W1351 (Ne.symm ne1332)
      have z1366 : n0 ≤ h1351.size := Nat.le_trans z1350 (Keep.of_wr W1351).1
      have f1367 : Fld Z h1351 o "com/example/quayside/quayside/Row" "ends" "[I" (.ref b1329) := f1340.same W1351
      have N1351 := Fr.snoc X1351 N1329 hg1
      refine own_Go.of (S' := (T1351.setTop (mkF m 71 #[.val (.ref o), .val (.int (Int32.ofNat i)), .val (.int j)] [(.ref o)]))) (fun t kt => ?_) ?_
      · show Steps p.tables e below (T1351.setTop (mkF m 70 #[.val (.ref o), .val (.int (Int32.ofNat i)), .val (.int j)] [])) _
        refine XS.aloadN X1351.here hx rfl (own_hb hby d5_70) rfl rfl ?_
        exact kt
      obtain ⟨T1368, X1368, e1368, st1368⟩ := getF X1351 hx hZ hown (host := "") (Or.inl (hw _ (List.mem_of_getElem? (i := 14) rfl))) Via.refl e1351 f1355 (g := (mkF m 71 #[.val (.ref o), .val (.int (Int32.ofNat i)), .val (.int j)] [(.ref o)])) rfl rfl (own_hb hby d5_71)
      refine own_Go.of (S' := (T1368.setTop (mkF m 74 #[.val (.ref o), .val (.int (Int32.ofNat i)), .val (.int j)] [(.ref b1291)]))) st1368 ?_
      refine own_Go.of (S' := (T1368.setTop (mkF m 75 #[.val (.ref o), .val (.int (Int32.ofNat i)), .val (.int j)] [(.ref o), (.ref b1291)]))) (fun t kt => ?_) ?_
      · show Steps p.tables e below (T1368.setTop (mkF m 74 #[.val (.ref o), .val (.int (Int32.ofNat i)), .val (.int j)] [(.ref b1291)])) _
        refine XS.aloadN X1368.here hx rfl (own_hb hby d5_74) rfl rfl ?_
        exact kt
      obtain ⟨T1369, X1369, e1369, st1369⟩ := getF X1368 hx hZ hown (host := "") (Or.inl (hw _ (List.mem_of_getElem? (i := 30) rfl))) Via.refl e1368 f1356 (g := (mkF m 75 #[.val (.ref o), .val (.int (Int32.ofNat i)), .val (.int j)] [(.ref o), (.ref b1291)])) rfl rfl (own_hb hby d5_75)
      refine own_Go.of (S' := (T1369.setTop (mkF m 78 #[.val (.ref o), .val (.int (Int32.ofNat i)), .val (.int j)] [(.int (Int32.ofNat k)), (.ref b1291)]))) st1369 ?_
      refine own_Go.of (S' := (T1369.setTop (mkF m 79 #[.val (.ref o), .val (.int (Int32.ofNat i)), .val (.int j)] [(.int (Int32.ofNat i)), (.int (Int32.ofNat k)), (.ref b1291)]))) (fun t kt => ?_) ?_
      · show Steps p.tables e below (T1369.setTop (mkF m 78 #[.val (.ref o), .val (.int (Int32.ofNat i)), .val (.int j)] [(.int (Int32.ofNat k)), (.ref b1291)])) _
        refine XS.iloadN X1369.here hx rfl (own_hb hby d5_78) rfl ?_
        exact kt
      obtain ⟨cl1370, Ar1370, hin1370, ub1370⟩ := own_Ar.put (j := (Int32.ofNat k)) (k := k) f1364 ⟨rfl, by omega⟩
      obtain ⟨T1370, h1370, X1370, e1370, W1370, st1370⟩ := stI X1369 hx hZ e1369 Ar1370 (j := (Int32.ofNat k)) hin1370 (g := (mkF m 79 #[.val (.ref o), .val (.int (Int32.ofNat i)), .val (.int j)] [(.int (Int32.ofNat i)), (.int (Int32.ofNat k)), (.ref b1291)])) rfl rfl (own_hb hby d5_79)
      refine own_Go.of (S' := (T1370.setTop (mkF m 80 #[.val (.ref o), .val (.int (Int32.ofNat i)), .val (.int j)] []))) st1370 ?_
      have kx1371 : own_Kx h0 h1370 x := kx1352.wr W1370 ne1293
      have f1372 : own_Lt h1370 x := f1353.wr W1370
      have f1373 : Exa Z h1370 o "com/example/quayside/quayside/Row" := f1354.wr W1370
      have f1374 : Fld Z h1370 o "com/example/quayside/quayside/Row" "starts" "[I" (.ref b1291) := f1355.other W1370 (Or.inl ne1294)
      have f1375 : Fld Z h1370 o "com/example/quayside/quayside/Row" "ends" "[I" (.ref b1329) := f1367.other W1370 (Or.inl ne1294)
      have f1376 : Fld Z h1370 o "com/example/quayside/quayside/Row" "size" "I" (.int (Int32.ofNat k)) := f1356.other W1370 (Or.inl ne1294)
      have f1377 : Fld Z h1370 o "com/example/quayside/quayside/Row" "reach" "I" (.int r) := f1357.other W1370 (Or.inl ne1294)
      have f1378 : Fld Z h1370 o "com/example/quayside/quayside/Row" "text" "Z" (.int tx) := f1358.other W1370 (Or.inl ne1294)
      have f1379 : Fld Z h1370 o "com/example/quayside/quayside/Row" "bytes" "[B" (.ref bs) := f1359.other W1370 (Or.inl ne1294)
      have f1380 : own_Ar Z h1370 rs .int cap (own_I gs) := f1360.other W1370 ne1295
      have f1381 : own_Ar Z h1370 re .int cap (own_I ge) := f1361.other W1370 ne1296
      have f1382 : Fld Z h1370 o "com/example/quayside/quayside/Row" "nulls" "[Z" .null := f1362.other W1370 (Or.inl ne1294)
      have f1383 : Fld Z h1370 o "com/example/quayside/quayside/Row" "nullCount" "I" (.int (0 : Int32)) := f1363.other W1370 (Or.inl ne1294)
      have f1384 : own_Ar Z h1370 b1329 .int (2 * k) (own_I (own_cpy ge cap)) := f1365.other W1370 (Ne.symm ne1335)
      have z1385 : n0 ≤ h1370.size := Nat.le_trans z1366 (Keep.of_wr W1370).1
      have f1386 : own_Ar Z h1370 b1291 .int (2 * k) (own_I (own_set (own_cpy gs cap) k (Int32.ofNat i))) := by rw [← own_upI]; exact ub1370 rfl W1370
      have N1370 := Fr.snoc X1370 N1351 gx1292
      refine own_Go.of (S' := (T1370.setTop (mkF m 81 #[.val (.ref o), .val (.int (Int32.ofNat i)), .val (.int j)] [(.ref o)]))) (fun t kt => ?_) ?_
      · show Steps p.tables e below (T1370.setTop (mkF m 80 #[.val (.ref o), .val (.int (Int32.ofNat i)), .val (.int j)] [])) _
        refine XS.aloadN X1370.here hx rfl (own_hb hby d5_80) rfl rfl ?_
        exact kt
      obtain ⟨T1387, X1387, e1387, st1387⟩ := getF X1370 hx hZ hown (host := "") (Or.inl (hw _ (List.mem_of_getElem? (i := 16) rfl))) Via.refl e1370 f1375 (g := (mkF m 81 #[.val (.ref o), .val (.int (Int32.ofNat i)), .val (.int j)] [(.ref o)])) rfl rfl (own_hb hby d5_81)
      refine own_Go.of (S' := (T1387.setTop (mkF m 84 #[.val (.ref o), .val (.int (Int32.ofNat i)), .val (.int j)] [(.ref b1329)]))) st1387 ?_
      refine own_Go.of (S' := (T1387.setTop (mkF m 85 #[.val (.ref o), .val (.int (Int32.ofNat i)), .val (.int j)] [(.ref o), (.ref b1329)]))) (fun t kt => ?_) ?_
      · show Steps p.tables e below (T1387.setTop (mkF m 84 #[.val (.ref o), .val (.int (Int32.ofNat i)), .val (.int j)] [(.ref b1329)])) _
        refine XS.aloadN X1387.here hx rfl (own_hb hby d5_84) rfl rfl ?_
        exact kt
      obtain ⟨T1388, X1388, e1388, st1388⟩ := getF X1387 hx hZ hown (host := "") (Or.inl (hw _ (List.mem_of_getElem? (i := 30) rfl))) Via.refl e1387 f1376 (g := (mkF m 85 #[.val (.ref o), .val (.int (Int32.ofNat i)), .val (.int j)] [(.ref o), (.ref b1329)])) rfl rfl (own_hb hby d5_85)
      refine own_Go.of (S' := (T1388.setTop (mkF m 88 #[.val (.ref o), .val (.int (Int32.ofNat i)), .val (.int j)] [(.int (Int32.ofNat k)), (.ref b1329)]))) st1388 ?_
      refine own_Go.of (S' := (T1388.setTop (mkF m 89 #[.val (.ref o), .val (.int (Int32.ofNat i)), .val (.int j)] [(.int j), (.int (Int32.ofNat k)), (.ref b1329)]))) (fun t kt => ?_) ?_
      · show Steps p.tables e below (T1388.setTop (mkF m 88 #[.val (.ref o), .val (.int (Int32.ofNat i)), .val (.int j)] [(.int (Int32.ofNat k)), (.ref b1329)])) _
        refine XS.iloadN X1388.here hx rfl (own_hb hby d5_88) rfl ?_
        exact kt
      obtain ⟨cl1389, Ar1389, hin1389, ub1389⟩ := own_Ar.put (j := (Int32.ofNat k)) (k := k) f1384 ⟨rfl, by omega⟩
      obtain ⟨T1389, h1389, X1389, e1389, W1389, st1389⟩ := stI X1388 hx hZ e1388 Ar1389 (j := (Int32.ofNat k)) hin1389 (g := (mkF m 89 #[.val (.ref o), .val (.int (Int32.ofNat i)), .val (.int j)] [(.int j), (.int (Int32.ofNat k)), (.ref b1329)])) rfl rfl (own_hb hby d5_89)
      refine own_Go.of (S' := (T1389.setTop (mkF m 90 #[.val (.ref o), .val (.int (Int32.ofNat i)), .val (.int j)] []))) st1389 ?_
      have kx1390 : own_Kx h0 h1389 x := kx1371.wr W1389 ne1331
      have f1391 : own_Lt h1389 x := f1372.wr W1389
      have f1392 : Exa Z h1389 o "com/example/quayside/quayside/Row" := f1373.wr W1389
      have f1393 : Fld Z h1389 o "com/example/quayside/quayside/Row" "starts" "[I" (.ref b1291) := f1374.other W1389 (Or.inl ne1332)
      have f1394 : Fld Z h1389 o "com/example/quayside/quayside/Row" "ends" "[I" (.ref b1329) := f1375.other W1389 (Or.inl ne1332)
      have f1395 : Fld Z h1389 o "com/example/quayside/quayside/Row" "size" "I" (.int (Int32.ofNat k)) := f1376.other W1389 (Or.inl ne1332)
      have f1396 : Fld Z h1389 o "com/example/quayside/quayside/Row" "reach" "I" (.int r) := f1377.other W1389 (Or.inl ne1332)
      have f1397 : Fld Z h1389 o "com/example/quayside/quayside/Row" "text" "Z" (.int tx) := f1378.other W1389 (Or.inl ne1332)
      have f1398 : Fld Z h1389 o "com/example/quayside/quayside/Row" "bytes" "[B" (.ref bs) := f1379.other W1389 (Or.inl ne1332)
      have f1399 : own_Ar Z h1389 rs .int cap (own_I gs) := f1380.other W1389 ne1333
      have f1400 : own_Ar Z h1389 re .int cap (own_I ge) := f1381.other W1389 ne1334
      have f1401 : Fld Z h1389 o "com/example/quayside/quayside/Row" "nulls" "[Z" .null := f1382.other W1389 (Or.inl ne1332)
      have f1402 : Fld Z h1389 o "com/example/quayside/quayside/Row" "nullCount" "I" (.int (0 : Int32)) := f1383.other W1389 (Or.inl ne1332)
      have f1403 : own_Ar Z h1389 b1291 .int (2 * k) (own_I (own_set (own_cpy gs cap) k (Int32.ofNat i))) := f1386.other W1389 ne1335
      have z1404 : n0 ≤ h1389.size := Nat.le_trans z1385 (Keep.of_wr W1389).1
      have f1405 : own_Ar Z h1389 b1329 .int (2 * k) (own_I (own_set (own_cpy ge cap) k j)) := by rw [← own_upI]; exact ub1389 rfl W1389
      have N1389 := Fr.snoc X1389 N1370 gx1330
      refine own_Go.of (S' := (T1389.setTop (mkF m 92 #[.val (.ref o), .val (.int (Int32.ofNat i)), .val (.int j)] [(.ref o), (.ref o)]))) (fun t kt => ?_) ?_
      · show Steps p.tables e below (T1389.setTop (mkF m 90 #[.val (.ref o), .val (.int (Int32.ofNat i)), .val (.int j)] [])) _
        refine XS.aloadN X1389.here hx rfl (own_hb hby d5_90) rfl rfl ?_
        show Steps p.tables e below (T1389.setTop (mkF m 91 #[.val (.ref o), .val (.int (Int32.ofNat i)), .val (.int j)] [(.ref o)])) _
        refine XS.dup X1389.here hx rfl (own_hb hby d5_91) rfl rfl ?_
        exact kt
      obtain ⟨T1406, X1406, e1406, st1406⟩ := getF X1389 hx hZ hown (host := "") (Or.inl (hw _ (List.mem_of_getElem? (i := 30) rfl))) Via.refl e1389 f1395 (g := (mkF m 92 #[.val (.ref o), .val (.int (Int32.ofNat i)), .val (.int j)] [(.ref o), (.ref o)])) rfl rfl (own_hb hby d5_92)
      refine own_Go.of (S' := (T1406.setTop (mkF m 95 #[.val (.ref o), .val (.int (Int32.ofNat i)), .val (.int j)] [(.int (Int32.ofNat k)), (.ref o)]))) st1406 ?_
      refine own_Go.of (S' := (T1406.setTop (mkF m 97 #[.val (.ref o), .val (.int (Int32.ofNat i)), .val (.int j)] [(.int (Int32.ofNat (k + 1))), (.ref o)]))) (fun t kt => ?_) ?_
      · show Steps p.tables e below (T1406.setTop (mkF m 95 #[.val (.ref o), .val (.int (Int32.ofNat i)), .val (.int j)] [(.int (Int32.ofNat k)), (.ref o)])) _
        refine XS.iconst X1406.here hx rfl (own_hb hby d5_95) ?_
        show Steps p.tables e below (T1406.setTop (mkF m 96 #[.val (.ref o), .val (.int (Int32.ofNat i)), .val (.int j)] [(.int (1 : Int32)), (.int (Int32.ofNat k)), (.ref o)])) _
        refine XS.iadd X1406.here hx rfl (own_hb hby d5_96) rfl ?_
        show Steps p.tables e below (T1406.setTop (mkF m 97 #[.val (.ref o), .val (.int (Int32.ofNat i)), .val (.int j)] [(.int ((Int32.ofNat k) + (1 : Int32))), (.ref o)])) _
        rw [show Int32.ofNat k + (1 : Int32) = Int32.ofNat (k + 1) from own_addN k 1]
        exact kt
      obtain ⟨T1407, h1407, X1407, e1407, W1407, st1407⟩ := putF X1406 hx hZ hown (host := "") (Or.inl (hw _ (List.mem_of_getElem? (i := 30) rfl))) Via.refl e1406 f1395 f1392 (Or.inl (hw _ (List.mem_of_getElem? (i := 31) rfl))) (hw _ (List.mem_of_getElem? (i := 2) rfl)) (ty := .int) (by decide) rfl rfl (g := (mkF m 97 #[.val (.ref o), .val (.int (Int32.ofNat i)), .val (.int j)] [(.int (Int32.ofNat (k + 1))), (.ref o)])) rfl rfl (own_hb hby d5_97)
      refine own_Go.of (S' := (T1407.setTop (mkF m 100 #[.val (.ref o), .val (.int (Int32.ofNat i)), .val (.int j)] []))) st1407 ?_
      have kx1408 : own_Kx h0 h1407 x := kx1390.wr W1407 hn4
      have f1409 : own_Lt h1407 x := f1391.wr W1407
      have f1410 : Exa Z h1407 o "com/example/quayside/quayside/Row" := f1392.wr W1407
      have f1411 : Fld Z h1407 o "com/example/quayside/quayside/Row" "starts" "[I" (.ref b1291) := f1393.other W1407 (Or.inr (slot_ne (Or.inl (hw _ (List.mem_of_getElem? (i := 15) rfl))) (Or.inl (hw _ (List.mem_of_getElem? (i := 31) rfl))) (by decide) (t := (.array .int)) (t' := .int) (by decide) (by decide)))
      have f1412 : Fld Z h1407 o "com/example/quayside/quayside/Row" "ends" "[I" (.ref b1329) := f1394.other W1407 (Or.inr (slot_ne (Or.inl (hw _ (List.mem_of_getElem? (i := 17) rfl))) (Or.inl (hw _ (List.mem_of_getElem? (i := 31) rfl))) (by decide) (t := (.array .int)) (t' := .int) (by decide) (by decide)))
      have f1413 : Fld Z h1407 o "com/example/quayside/quayside/Row" "reach" "I" (.int r) := f1396.other W1407 (Or.inr (slot_ne (Or.inl (hw _ (List.mem_of_getElem? (i := 33) rfl))) (Or.inl (hw _ (List.mem_of_getElem? (i := 31) rfl))) (by decide) (t := .int) (t' := .int) (by decide) (by decide)))
      have f1414 : Fld Z h1407 o "com/example/quayside/quayside/Row" "text" "Z" (.int tx) := f1397.other W1407 (Or.inr (slot_ne (Or.inl (hw _ (List.mem_of_getElem? (i := 39) rfl))) (Or.inl (hw _ (List.mem_of_getElem? (i := 31) rfl))) (by decide) (t := .boolean) (t' := .int) (by decide) (by decide)))
      have f1415 : Fld Z h1407 o "com/example/quayside/quayside/Row" "bytes" "[B" (.ref bs) := f1398.other W1407 (Or.inr (slot_ne (Or.inl (hw _ (List.mem_of_getElem? (i := 12) rfl))) (Or.inl (hw _ (List.mem_of_getElem? (i := 31) rfl))) (by decide) (t := (.array .byte)) (t' := .int) (by decide) (by decide)))
      have f1416 : own_Ar Z h1407 rs .int cap (own_I gs) := f1399.other W1407 (Ne.symm hn1)
      have f1417 : own_Ar Z h1407 re .int cap (own_I ge) := f1400.other W1407 (Ne.symm hn2)
      have f1418 : Fld Z h1407 o "com/example/quayside/quayside/Row" "nulls" "[Z" .null := f1401.other W1407 (Or.inr (slot_ne (Or.inl (hw _ (List.mem_of_getElem? (i := 65) rfl))) (Or.inl (hw _ (List.mem_of_getElem? (i := 31) rfl))) (by decide) (t := (.array .boolean)) (t' := .int) (by decide) (by decide)))
      have f1419 : Fld Z h1407 o "com/example/quayside/quayside/Row" "nullCount" "I" (.int (0 : Int32)) := f1402.other W1407 (Or.inr (slot_ne (Or.inl (hw _ (List.mem_of_getElem? (i := 52) rfl))) (Or.inl (hw _ (List.mem_of_getElem? (i := 31) rfl))) (by decide) (t := .int) (t' := .int) (by decide) (by decide)))
      have f1420 : own_Ar Z h1407 b1291 .int (2 * k) (own_I (own_set (own_cpy gs cap) k (Int32.ofNat i))) := f1403.other W1407 (Ne.symm ne1294)
      have f1421 : own_Ar Z h1407 b1329 .int (2 * k) (own_I (own_set (own_cpy ge cap) k j)) := f1405.other W1407 (Ne.symm ne1332)
      have z1422 : n0 ≤ h1407.size := Nat.le_trans z1404 (Keep.of_wr W1407).1
      have f1423 : Fld Z h1407 o "com/example/quayside/quayside/Row" "size" "I" (.int (Int32.ofNat (k + 1))) := f1395.same W1407
      have N1407 := Fr.snoc X1407 N1389 hg1
      refine own_Go.of (S' := (T1407.setTop (mkF m 102 #[.val (.ref o), .val (.int (Int32.ofNat i)), .val (.int j)] [(.ref o), (.ref o)]))) (fun t kt => ?_) ?_
      · show Steps p.tables e below (T1407.setTop (mkF m 100 #[.val (.ref o), .val (.int (Int32.ofNat i)), .val (.int j)] [])) _
        refine XS.aloadN X1407.here hx rfl (own_hb hby d5_100) rfl rfl ?_
        show Steps p.tables e below (T1407.setTop (mkF m 101 #[.val (.ref o), .val (.int (Int32.ofNat i)), .val (.int j)] [(.ref o)])) _
        refine XS.aloadN X1407.here hx rfl (own_hb hby d5_101) rfl rfl ?_
        exact kt
      obtain ⟨T1424, X1424, e1424, st1424⟩ := getF X1407 hx hZ hown (host := "") (Or.inl (hw _ (List.mem_of_getElem? (i := 32) rfl))) Via.refl e1407 f1413 (g := (mkF m 102 #[.val (.ref o), .val (.int (Int32.ofNat i)), .val (.int j)] [(.ref o), (.ref o)])) rfl rfl (own_hb hby d5_102)
      refine own_Go.of (S' := (T1424.setTop (mkF m 105 #[.val (.ref o), .val (.int (Int32.ofNat i)), .val (.int j)] [(.int r), (.ref o)]))) st1424 ?_
      refine own_Go.of (S' := (T1424.setTop (mkF m 106 #[.val (.ref o), .val (.int (Int32.ofNat i)), .val (.int j)] [(.int j), (.int r), (.ref o)]))) (fun t kt => ?_) ?_
      · show Steps p.tables e below (T1424.setTop (mkF m 105 #[.val (.ref o), .val (.int (Int32.ofNat i)), .val (.int j)] [(.int r), (.ref o)])) _
        refine XS.iloadN X1424.here hx rfl (own_hb hby d5_105) rfl ?_
        exact kt
      obtain ⟨_, _, ⟨T1425, L1425, k1425, n1425⟩, -, X1425, ⟨Lc1425, hQ1425, l1425, y1425, z1425⟩, st1425⟩ := Jvm.LawKit.callS X1424 hx (y := (⟨"java/lang/Math", "max", "(II)I"⟩ : MethodName)) hown (mvT hZ (hw _ (List.mem_of_getElem? (i := 34) rfl))) (mvT hZ (hw _ (List.mem_of_getElem? (i := 35) rfl))) (mvT hZ (hw _ (List.mem_of_getElem? (i := 36) rfl))) (mvT hZ (hw _ (List.mem_of_getElem? (i := 37) rfl))) (by decide) (backOf (W := 1) (rm6 l Z a0 hw [] r j h1407 n0 z1422 ) hZ (hw _ (List.mem_of_getElem? (i := 37) rfl)) (hw _ (List.mem_of_getElem? (i := 36) rfl)) (by decide) (by decide)) (g := (mkF m 106 #[.val (.ref o), .val (.int (Int32.ofNat i)), .val (.int j)] [(.int j), (.int r), (.ref o)])) rfl (by rw [hml]; rfl) (argsL := [(.int r), (.int j)]) (rest := [(.ref o)]) (lenOf pd_0 rfl) rfl (by show 2 * 0 + _ ≤ _; exact Nat.le_of_eq rfl) (own_hb hby d5_106) (fun _ _ => ⟨rfl, e1424, (by decide : 2 + 0 ≤ _), (by decide : 16 + 0 ≤ _)⟩)
      dsimp only [Pt.U, Pt.locs, Pt.cells, Pt.slots] at X1425 l1425 y1425 z1425 st1425 hQ1425
      subst l1425 y1425 z1425
      obtain ⟨rfl, N1425q, hh1425⟩ := hQ1425
      have N1425 := Fr.app N1407 N1425q
      refine own_Go.of (S' := (T1425.setTop (mkF m 109 #[.val (.ref o), .val (.int (Int32.ofNat i)), .val (.int j)] [(.int (own_maxI r j)), (.ref o)]))) (fun t kt => st1425 t kt) ?_
      obtain ⟨T1426, h1426, X1426, e1426, W1426, st1426⟩ := putF X1425 hx hZ hown (host := "") (Or.inl (hw _ (List.mem_of_getElem? (i := 32) rfl))) Via.refl hh1425 f1413 f1410 (Or.inl (hw _ (List.mem_of_getElem? (i := 33) rfl))) (hw _ (List.mem_of_getElem? (i := 2) rfl)) (ty := .int) (by decide) rfl rfl (g := (mkF m 109 #[.val (.ref o), .val (.int (Int32.ofNat i)), .val (.int j)] [(.int (own_maxI r j)), (.ref o)])) rfl rfl (own_hb hby d5_109)
      refine own_Go.of (S' := (T1426.setTop (mkF m 112 #[.val (.ref o), .val (.int (Int32.ofNat i)), .val (.int j)] []))) st1426 ?_
      have kx1427 : own_Kx h0 h1426 x := kx1408.wr W1426 hn4
      have f1428 : own_Lt h1426 x := f1409.wr W1426
      have f1429 : Exa Z h1426 o "com/example/quayside/quayside/Row" := f1410.wr W1426
      have f1430 : Fld Z h1426 o "com/example/quayside/quayside/Row" "starts" "[I" (.ref b1291) := f1411.other W1426 (Or.inr (slot_ne (Or.inl (hw _ (List.mem_of_getElem? (i := 15) rfl))) (Or.inl (hw _ (List.mem_of_getElem? (i := 33) rfl))) (by decide) (t := (.array .int)) (t' := .int) (by decide) (by decide)))
      have f1431 : Fld Z h1426 o "com/example/quayside/quayside/Row" "ends" "[I" (.ref b1329) := f1412.other W1426 (Or.inr (slot_ne (Or.inl (hw _ (List.mem_of_getElem? (i := 17) rfl))) (Or.inl (hw _ (List.mem_of_getElem? (i := 33) rfl))) (by decide) (t := (.array .int)) (t' := .int) (by decide) (by decide)))
      have f1432 : Fld Z h1426 o "com/example/quayside/quayside/Row" "size" "I" (.int (Int32.ofNat (k + 1))) := f1423.other W1426 (Or.inr (slot_ne (Or.inl (hw _ (List.mem_of_getElem? (i := 31) rfl))) (Or.inl (hw _ (List.mem_of_getElem? (i := 33) rfl))) (by decide) (t := .int) (t' := .int) (by decide) (by decide)))
      have f1433 : Fld Z h1426 o "com/example/quayside/quayside/Row" "text" "Z" (.int tx) := f1414.other W1426 (Or.inr (slot_ne (Or.inl (hw _ (List.mem_of_getElem? (i := 39) rfl))) (Or.inl (hw _ (List.mem_of_getElem? (i := 33) rfl))) (by decide) (t := .boolean) (t' := .int) (by decide) (by decide)))
      have f1434 : Fld Z h1426 o "com/example/quayside/quayside/Row" "bytes" "[B" (.ref bs) := f1415.other W1426 (Or.inr (slot_ne (Or.inl (hw _ (List.mem_of_getElem? (i := 12) rfl))) (Or.inl (hw _ (List.mem_of_getElem? (i := 33) rfl))) (by decide) (t := (.array .byte)) (t' := .int) (by decide) (by decide)))
      have f1435 : own_Ar Z h1426 rs .int cap (own_I gs) := f1416.other W1426 (Ne.symm hn1)
      have f1436 : own_Ar Z h1426 re .int cap (own_I ge) := f1417.other W1426 (Ne.symm hn2)
      have f1437 : Fld Z h1426 o "com/example/quayside/quayside/Row" "nulls" "[Z" .null := f1418.other W1426 (Or.inr (slot_ne (Or.inl (hw _ (List.mem_of_getElem? (i := 65) rfl))) (Or.inl (hw _ (List.mem_of_getElem? (i := 33) rfl))) (by decide) (t := (.array .boolean)) (t' := .int) (by decide) (by decide)))
      have f1438 : Fld Z h1426 o "com/example/quayside/quayside/Row" "nullCount" "I" (.int (0 : Int32)) := f1419.other W1426 (Or.inr (slot_ne (Or.inl (hw _ (List.mem_of_getElem? (i := 52) rfl))) (Or.inl (hw _ (List.mem_of_getElem? (i := 33) rfl))) (by decide) (t := .int) (t' := .int) (by decide) (by decide)))
      have f1439 : own_Ar Z h1426 b1291 .int (2 * k) (own_I (own_set (own_cpy gs cap) k (Int32.ofNat i))) := f1420.other W1426 (Ne.symm ne1294)
      have f1440 : own_Ar Z h1426 b1329 .int (2 * k) (own_I (own_set (own_cpy ge cap) k j)) := f1421.other W1426 (Ne.symm ne1332)
      have z1441 : n0 ≤ h1426.size := Nat.le_trans z1422 (Keep.of_wr W1426).1
      have f1442 : Fld Z h1426 o "com/example/quayside/quayside/Row" "reach" "I" (.int (own_maxI r j)) := f1413.same W1426
      have N1426 := Fr.snoc X1426 N1425 hg1
      refine own_Go.of (S' := (T1426.setTop (mkF m 114 #[.val (.ref o), .val (.int (Int32.ofNat i)), .val (.int j)] [(.int (0 : Int32)), (.ref o)]))) (fun t kt => ?_) ?_
      · show Steps p.tables e below (T1426.setTop (mkF m 112 #[.val (.ref o), .val (.int (Int32.ofNat i)), .val (.int j)] [])) _
        refine XS.aloadN X1426.here hx rfl (own_hb hby d5_112) rfl rfl ?_
        show Steps p.tables e below (T1426.setTop (mkF m 113 #[.val (.ref o), .val (.int (Int32.ofNat i)), .val (.int j)] [(.ref o)])) _
        refine XS.iconst X1426.here hx rfl (own_hb hby d5_113) ?_
        exact kt
      obtain ⟨T1443, h1443, X1443, e1443, W1443, st1443⟩ := putFN X1426 hx hZ hown (hw _ (List.mem_of_getElem? (i := 38) rfl)) Via.refl e1426 f1433 f1429 (Or.inl (hw _ (List.mem_of_getElem? (i := 39) rfl))) (hw _ (List.mem_of_getElem? (i := 2) rfl)) (ty := .boolean) (v' := (.int (nar .boolean (0 : Int32)))) (by decide) rfl (fits_nar_bool _) (g := (mkF m 114 #[.val (.ref o), .val (.int (Int32.ofNat i)), .val (.int j)] [(.int (0 : Int32)), (.ref o)])) rfl rfl (own_hb hby d5_114)
      refine own_Go.of (S' := (T1443.setTop (mkF m 117 #[.val (.ref o), .val (.int (Int32.ofNat i)), .val (.int j)] []))) st1443 ?_
      have kx1444 : own_Kx h0 h1443 x := kx1427.wr W1443 hn4
      have f1445 : own_Lt h1443 x := f1428.wr W1443
      have f1446 : Exa Z h1443 o "com/example/quayside/quayside/Row" := f1429.wr W1443
      have f1447 : Fld Z h1443 o "com/example/quayside/quayside/Row" "starts" "[I" (.ref b1291) := f1430.other W1443 (Or.inr (slot_ne (Or.inl (hw _ (List.mem_of_getElem? (i := 15) rfl))) (Or.inl (hw _ (List.mem_of_getElem? (i := 39) rfl))) (by decide) (t := (.array .int)) (t' := .boolean) (by decide) (by decide)))
      have f1448 : Fld Z h1443 o "com/example/quayside/quayside/Row" "ends" "[I" (.ref b1329) := f1431.other W1443 (Or.inr (slot_ne (Or.inl (hw _ (List.mem_of_getElem? (i := 17) rfl))) (Or.inl (hw _ (List.mem_of_getElem? (i := 39) rfl))) (by decide) (t := (.array .int)) (t' := .boolean) (by decide) (by decide)))
      have f1449 : Fld Z h1443 o "com/example/quayside/quayside/Row" "size" "I" (.int (Int32.ofNat (k + 1))) := f1432.other W1443 (Or.inr (slot_ne (Or.inl (hw _ (List.mem_of_getElem? (i := 31) rfl))) (Or.inl (hw _ (List.mem_of_getElem? (i := 39) rfl))) (by decide) (t := .int) (t' := .boolean) (by decide) (by decide)))
      have f1450 : Fld Z h1443 o "com/example/quayside/quayside/Row" "reach" "I" (.int (own_maxI r j)) := f1442.other W1443 (Or.inr (slot_ne (Or.inl (hw _ (List.mem_of_getElem? (i := 33) rfl))) (Or.inl (hw _ (List.mem_of_getElem? (i := 39) rfl))) (by decide) (t := .int) (t' := .boolean) (by decide) (by decide)))
      have f1451 : Fld Z h1443 o "com/example/quayside/quayside/Row" "bytes" "[B" (.ref bs) := f1434.other W1443 (Or.inr (slot_ne (Or.inl (hw _ (List.mem_of_getElem? (i := 12) rfl))) (Or.inl (hw _ (List.mem_of_getElem? (i := 39) rfl))) (by decide) (t := (.array .byte)) (t' := .boolean) (by decide) (by decide)))
      have f1452 : own_Ar Z h1443 rs .int cap (own_I gs) := f1435.other W1443 (Ne.symm hn1)
      have f1453 : own_Ar Z h1443 re .int cap (own_I ge) := f1436.other W1443 (Ne.symm hn2)
      have f1454 : Fld Z h1443 o "com/example/quayside/quayside/Row" "nulls" "[Z" .null := f1437.other W1443 (Or.inr (slot_ne (Or.inl (hw _ (List.mem_of_getElem? (i := 65) rfl))) (Or.inl (hw _ (List.mem_of_getElem? (i := 39) rfl))) (by decide) (t := (.array .boolean)) (t' := .boolean) (by decide) (by decide)))
      have f1455 : Fld Z h1443 o "com/example/quayside/quayside/Row" "nullCount" "I" (.int (0 : Int32)) := f1438.other W1443 (Or.inr (slot_ne (Or.inl (hw _ (List.mem_of_getElem? (i := 52) rfl))) (Or.inl (hw _ (List.mem_of_getElem? (i := 39) rfl))) (by decide) (t := .int) (t' := .boolean) (by decide) (by decide)))
      have f1456 : own_Ar Z h1443 b1291 .int (2 * k) (own_I (own_set (own_cpy gs cap) k (Int32.ofNat i))) := f1439.other W1443 (Ne.symm ne1294)
      have f1457 : own_Ar Z h1443 b1329 .int (2 * k) (own_I (own_set (own_cpy ge cap) k j)) := f1440.other W1443 (Ne.symm ne1332)
      have z1458 : n0 ≤ h1443.size := Nat.le_trans z1441 (Keep.of_wr W1443).1
      have f1459 : Fld Z h1443 o "com/example/quayside/quayside/Row" "text" "Z" (.int (nar .boolean (0 : Int32))) := f1433.same W1443
      have N1443 := Fr.snoc X1443 N1426 hg1
      have f1460 : Fld Z h1443 o "com/example/quayside/quayside/Row" "text" "Z" (.int (0 : Int32)) := f1459
      exact own_retV X1443 hx hlk hret (own_hb hby d5_117) e1443 ⟨(2 * k), rfl, N1443, kx1444, ⟨b1291, b1329, bs, (own_set (own_cpy gs cap) k (Int32.ofNat i)), (own_set (own_cpy ge cap) k j), (0 : Int32), (own_maxI r j), f1446, f1447, f1448, f1449, f1450, f1460, f1451, f1456, f1457, hg1, gx1292, gx1330, ne1294, ne1332, ne1335, hn4, ne1293, ne1331, (by omega), (by omega), own_s01 hf01 (Or.inl rfl), Or.inl ⟨f1454, f1455, own_z1 hf0⟩⟩⟩ (by decide) (by decide)
  · skip
    by_cases hkk : k < cap
    · skip
      refine own_Go.of (S' := (T0.setTop (mkF m 25 #[.val (.ref o), .val (.int (Int32.ofNat i)), .val (.int j)] [(.ref o)]))) (fun t kt => ?_) ?_
      · show Steps p.tables e below (T0.setTop (mkF m 0 #[.val (.ref o), .val (.int (Int32.ofNat i)), .val (.int j)] [])) _
        refine XS.iloadN X0.here hx rfl (own_hb hby d5_0) rfl ?_
        show Steps p.tables e below (T0.setTop (mkF m 1 #[.val (.ref o), .val (.int (Int32.ofNat i)), .val (.int j)] [(.int (Int32.ofNat i))])) _
        refine XS.ifNo X0.here hx rfl (own_hb hby d5_1) rfl ((if0 _ _).trans (flt (fun q => by have h2 := (own_ltN (b := 0) hi (by decide)).mp q; omega)).1) ?_
        show Steps p.tables e below (T0.setTop (mkF m 4 #[.val (.ref o), .val (.int (Int32.ofNat i)), .val (.int j)] [])) _
        refine XS.iloadN X0.here hx rfl (own_hb hby d5_4) rfl ?_
        show Steps p.tables e below (T0.setTop (mkF m 5 #[.val (.ref o), .val (.int (Int32.ofNat i)), .val (.int j)] [(.int j)])) _
        refine XS.iloadN X0.here hx rfl (own_hb hby d5_5) rfl ?_
        show Steps p.tables e below (T0.setTop (mkF m 6 #[.val (.ref o), .val (.int (Int32.ofNat i)), .val (.int j)] [(.int (Int32.ofNat i)), (.int j)])) _
        refine XS.icmpYes X0.here hx rfl (pc0 := 6) (pc' := 24) rfl (own_hb hby d5_6) rfl (flt hij).2.1 (by decide) (by decide) ?_
        show Steps p.tables e below (T0.setTop (mkF m 24 #[.val (.ref o), .val (.int (Int32.ofNat i)), .val (.int j)] [])) _
        refine XS.aloadN X0.here hx rfl (own_hb hby d5_24) rfl rfl ?_
        exact kt
      obtain ⟨T1461, X1461, e1461, st1461⟩ := getF X0 hx hZ hown (host := "") (Or.inl (hw _ (List.mem_of_getElem? (i := 30) rfl))) Via.refl e0 hF3 (g := (mkF m 25 #[.val (.ref o), .val (.int (Int32.ofNat i)), .val (.int j)] [(.ref o)])) rfl rfl (own_hb hby d5_25)
      refine own_Go.of (S' := (T1461.setTop (mkF m 28 #[.val (.ref o), .val (.int (Int32.ofNat i)), .val (.int j)] [(.int (Int32.ofNat k))]))) st1461 ?_
      refine own_Go.of (S' := (T1461.setTop (mkF m 29 #[.val (.ref o), .val (.int (Int32.ofNat i)), .val (.int j)] [(.ref o), (.int (Int32.ofNat k))]))) (fun t kt => ?_) ?_
      · show Steps p.tables e below (T1461.setTop (mkF m 28 #[.val (.ref o), .val (.int (Int32.ofNat i)), .val (.int j)] [(.int (Int32.ofNat k))])) _
        refine XS.aloadN X1461.here hx rfl (own_hb hby d5_28) rfl rfl ?_
        exact kt
      obtain ⟨T1462, X1462, e1462, st1462⟩ := getF X1461 hx hZ hown (host := "") (Or.inl (hw _ (List.mem_of_getElem? (i := 14) rfl))) Via.refl e1461 hF1 (g := (mkF m 29 #[.val (.ref o), .val (.int (Int32.ofNat i)), .val (.int j)] [(.ref o), (.int (Int32.ofNat k))])) rfl rfl (own_hb hby d5_29)
      refine own_Go.of (S' := (T1462.setTop (mkF m 32 #[.val (.ref o), .val (.int (Int32.ofNat i)), .val (.int j)] [(.ref rs), (.int (Int32.ofNat k))]))) st1462 ?_
      obtain ⟨cl1463, Ar1463, hln1463⟩ := own_Ar.len hA1
      refine own_Go.of (S' := (T1462.setTop (mkF m 71 #[.val (.ref o), .val (.int (Int32.ofNat i)), .val (.int j)] [(.ref o)]))) (fun t kt => ?_) ?_
      · show Steps p.tables e below (T1462.setTop (mkF m 32 #[.val (.ref o), .val (.int (Int32.ofNat i)), .val (.int j)] [(.ref rs), (.int (Int32.ofNat k))])) _
        refine X1462.arraylength hx (by rw [e1462]; exact Ar1463.1) (State.isArrayOf_alike hZ.alike Ar1463.2.1) (g := (mkF m 32 #[.val (.ref o), .val (.int (Int32.ofNat i)), .val (.int j)] [(.ref rs), (.int (Int32.ofNat k))])) rfl rfl (own_hb hby d5_32) _ ?_
        rw [hln1463]
        show Steps p.tables e below (T1462.setTop (mkF m 33 #[.val (.ref o), .val (.int (Int32.ofNat i)), .val (.int j)] [(.int (Int32.ofNat cap)), (.int (Int32.ofNat k))])) _
        refine XS.icmpYes X1462.here hx rfl (pc0 := 33) (pc' := 70) rfl (own_hb hby d5_33) rfl (feq (fun q => by have h2 := (own_eqN (by omega) (by omega)).mp q; omega)).2 (by decide) (by decide) ?_
        show Steps p.tables e below (T1462.setTop (mkF m 70 #[.val (.ref o), .val (.int (Int32.ofNat i)), .val (.int j)] [])) _
        refine XS.aloadN X1462.here hx rfl (own_hb hby d5_70) rfl rfl ?_
        exact kt
      obtain ⟨T1464, X1464, e1464, st1464⟩ := getF X1462 hx hZ hown (host := "") (Or.inl (hw _ (List.mem_of_getElem? (i := 14) rfl))) Via.refl e1462 hF1 (g := (mkF m 71 #[.val (.ref o), .val (.int (Int32.ofNat i)), .val (.int j)] [(.ref o)])) rfl rfl (own_hb hby d5_71)
      refine own_Go.of (S' := (T1464.setTop (mkF m 74 #[.val (.ref o), .val (.int (Int32.ofNat i)), .val (.int j)] [(.ref rs)]))) st1464 ?_
      refine own_Go.of (S' := (T1464.setTop (mkF m 75 #[.val (.ref o), .val (.int (Int32.ofNat i)), .val (.int j)] [(.ref o), (.ref rs)]))) (fun t kt => ?_) ?_
      · show Steps p.tables e below (T1464.setTop (mkF m 74 #[.val (.ref o), .val (.int (Int32.ofNat i)), .val (.int j)] [(.ref rs)])) _
        refine XS.aloadN X1464.here hx rfl (own_hb hby d5_74) rfl rfl ?_
        exact kt
      obtain ⟨T1465, X1465, e1465, st1465⟩ := getF X1464 hx hZ hown (host := "") (Or.inl (hw _ (List.mem_of_getElem? (i := 30) rfl))) Via.refl e1464 hF3 (g := (mkF m 75 #[.val (.ref o), .val (.int (Int32.ofNat i)), .val (.int j)] [(.ref o), (.ref rs)])) rfl rfl (own_hb hby d5_75)
      refine own_Go.of (S' := (T1465.setTop (mkF m 78 #[.val (.ref o), .val (.int (Int32.ofNat i)), .val (.int j)] [(.int (Int32.ofNat k)), (.ref rs)]))) st1465 ?_
      refine own_Go.of (S' := (T1465.setTop (mkF m 79 #[.val (.ref o), .val (.int (Int32.ofNat i)), .val (.int j)] [(.int (Int32.ofNat i)), (.int (Int32.ofNat k)), (.ref rs)]))) (fun t kt => ?_) ?_
      · show Steps p.tables e below (T1465.setTop (mkF m 78 #[.val (.ref o), .val (.int (Int32.ofNat i)), .val (.int j)] [(.int (Int32.ofNat k)), (.ref rs)])) _
        refine XS.iloadN X1465.here hx rfl (own_hb hby d5_78) rfl ?_
        exact kt
      obtain ⟨cl1466, Ar1466, hin1466, ub1466⟩ := own_Ar.put (j := (Int32.ofNat k)) (k := k) hA1 ⟨rfl, by omega⟩
      obtain ⟨T1466, h1466, X1466, e1466, W1466, st1466⟩ := stI X1465 hx hZ e1465 Ar1466 (j := (Int32.ofNat k)) hin1466 (g := (mkF m 79 #[.val (.ref o), .val (.int (Int32.ofNat i)), .val (.int j)] [(.int (Int32.ofNat i)), (.int (Int32.ofNat k)), (.ref rs)])) rfl rfl (own_hb hby d5_79)
      refine own_Go.of (S' := (T1466.setTop (mkF m 80 #[.val (.ref o), .val (.int (Int32.ofNat i)), .val (.int j)] []))) st1466 ?_
      have kx1467 : own_Kx h0 h1466 x := kx0.wr W1466 hn5
      have f1468 : own_Lt h1466 x := pr4.wr W1466
      have f1469 : Exa Z h1466 o "com/example/quayside/quayside/Row" := hE.wr W1466
      have f1470 : Fld Z h1466 o "com/example/quayside/quayside/Row" "starts" "[I" (.ref rs) := hF1.other W1466 (Or.inl hn1)
      have f1471 : Fld Z h1466 o "com/example/quayside/quayside/Row" "ends" "[I" (.ref re) := hF2.other W1466 (Or.inl hn1)
      have f1472 : Fld Z h1466 o "com/example/quayside/quayside/Row" "size" "I" (.int (Int32.ofNat k)) := hF3.other W1466 (Or.inl hn1)
      have f1473 : Fld Z h1466 o "com/example/quayside/quayside/Row" "reach" "I" (.int r) := hF4.other W1466 (Or.inl hn1)
      have f1474 : Fld Z h1466 o "com/example/quayside/quayside/Row" "text" "Z" (.int tx) := hF5.other W1466 (Or.inl hn1)
      have f1475 : Fld Z h1466 o "com/example/quayside/quayside/Row" "bytes" "[B" (.ref bs) := hF6.other W1466 (Or.inl hn1)
      have f1476 : own_Ar Z h1466 re .int cap (own_I ge) := hA2.other W1466 (Ne.symm hn3)
      have f1477 : Fld Z h1466 o "com/example/quayside/quayside/Row" "nulls" "[Z" (.ref rn) := hm1.other W1466 (Or.inl hn1)
      have f1478 : Fld Z h1466 o "com/example/quayside/quayside/Row" "nullCount" "I" (.int (Int32.ofNat c')) := hm2.other W1466 (Or.inl hn1)
      have f1479 : own_Ar Z h1466 rn .boolean mn (own_I g) := hA3.other W1466 (Ne.symm hn8)
      have z1480 : n0 ≤ h1466.size := Nat.le_trans Z0 (Keep.of_wr W1466).1
      have f1481 : own_Ar Z h1466 rs .int cap (own_I (own_set gs k (Int32.ofNat i))) := by rw [← own_upI]; exact ub1466 rfl W1466
      have N1466 := Fr.snoc X1466 N0 hg2
      refine own_Go.of (S' := (T1466.setTop (mkF m 81 #[.val (.ref o), .val (.int (Int32.ofNat i)), .val (.int j)] [(.ref o)]))) (fun t kt => ?_) ?_
      · show Steps p.tables e below (T1466.setTop (mkF m 80 #[.val (.ref o), .val (.int (Int32.ofNat i)), .val (.int j)] [])) _
        refine XS.aloadN X1466.here hx rfl (own_hb hby d5_80) rfl rfl ?_
        exact kt
      obtain ⟨T1482, X1482, e1482, st1482⟩ := getF X1466 hx hZ hown (host := "") (Or.inl (hw _ (List.mem_of_getElem? (i := 16) rfl))) Via.refl e1466 f1471 (g := (mkF m 81 #[.val (.ref o), .val (.int (Int32.ofNat i)), .val (.int j)] [(.ref o)])) rfl rfl (own_hb hby d5_81)
      refine own_Go.of (S' := (T1482.setTop (mkF m 84 #[.val (.ref o), .val (.int (Int32.ofNat i)), .val (.int j)] [(.ref re)]))) st1482 ?_
      refine own_Go.of (S' := (T1482.setTop (mkF m 85 #[.val (.ref o), .val (.int (Int32.ofNat i)), .val (.int j)] [(.ref o), (.ref re)]))) (fun t kt => ?_) ?_
      · show Steps p.tables e below (T1482.setTop (mkF m 84 #[.val (.ref o), .val (.int (Int32.ofNat i)), .val (.int j)] [(.ref re)])) _
        refine XS.aloadN X1482.here hx rfl (own_hb hby d5_84) rfl rfl ?_
        exact kt
      obtain ⟨T1483, X1483, e1483, st1483⟩ := getF X1482 hx hZ hown (host := "") (Or.inl (hw _ (List.mem_of_getElem? (i := 30) rfl))) Via.refl e1482 f1472 (g := (mkF m 85 #[.val (.ref o), .val (.int (Int32.ofNat i)), .val (.int j)] [(.ref o), (.ref re)])) rfl rfl (own_hb hby d5_85)
      refine own_Go.of (S' := (T1483.setTop (mkF m 88 #[.val (.ref o), .val (.int (Int32.ofNat i)), .val (.int j)] [(.int (Int32.ofNat k)), (.ref re)]))) st1483 ?_
      refine own_Go.of (S' := (T1483.setTop (mkF m 89 #[.val (.ref o), .val (.int (Int32.ofNat i)), .val (.int j)] [(.int j), (.int (Int32.ofNat k)), (.ref re)]))) (fun t kt => ?_) ?_
      · show Steps p.tables e below (T1483.setTop (mkF m 88 #[.val (.ref o), .val (.int (Int32.ofNat i)), .val (.int j)] [(.int (Int32.ofNat k)), (.ref re)])) _
        refine XS.iloadN X1483.here hx rfl (own_hb hby d5_88) rfl ?_
        exact kt
      obtain ⟨cl1484, Ar1484, hin1484, ub1484⟩ := own_Ar.put (j := (Int32.ofNat k)) (k := k) f1476 ⟨rfl, by omega⟩
      obtain ⟨T1484, h1484, X1484, e1484, W1484, st1484⟩ := stI X1483 hx hZ e1483 Ar1484 (j := (Int32.ofNat k)) hin1484 (g := (mkF m 89 #[.val (.ref o), .val (.int (Int32.ofNat i)), .val (.int j)] [(.int j), (.int (Int32.ofNat k)), (.ref re)])) rfl rfl (own_hb hby d5_89)
      refine own_Go.of (S' := (T1484.setTop (mkF m 90 #[.val (.ref o), .val (.int (Int32.ofNat i)), .val (.int j)] []))) st1484 ?_
      have kx1485 : own_Kx h0 h1484 x := kx1467.wr W1484 hn6
      have f1486 : own_Lt h1484 x := f1468.wr W1484
      have f1487 : Exa Z h1484 o "com/example/quayside/quayside/Row" := f1469.wr W1484
      have f1488 : Fld Z h1484 o "com/example/quayside/quayside/Row" "starts" "[I" (.ref rs) := f1470.other W1484 (Or.inl hn2)
      have f1489 : Fld Z h1484 o "com/example/quayside/quayside/Row" "ends" "[I" (.ref re) := f1471.other W1484 (Or.inl hn2)
      have f1490 : Fld Z h1484 o "com/example/quayside/quayside/Row" "size" "I" (.int (Int32.ofNat k)) := f1472.other W1484 (Or.inl hn2)
      have f1491 : Fld Z h1484 o "com/example/quayside/quayside/Row" "reach" "I" (.int r) := f1473.other W1484 (Or.inl hn2)
      have f1492 : Fld Z h1484 o "com/example/quayside/quayside/Row" "text" "Z" (.int tx) := f1474.other W1484 (Or.inl hn2)
      have f1493 : Fld Z h1484 o "com/example/quayside/quayside/Row" "bytes" "[B" (.ref bs) := f1475.other W1484 (Or.inl hn2)
      have f1494 : own_Ar Z h1484 rs .int cap (own_I (own_set gs k (Int32.ofNat i))) := f1481.other W1484 hn3
      have f1495 : Fld Z h1484 o "com/example/quayside/quayside/Row" "nulls" "[Z" (.ref rn) := f1477.other W1484 (Or.inl hn2)
      have f1496 : Fld Z h1484 o "com/example/quayside/quayside/Row" "nullCount" "I" (.int (Int32.ofNat c')) := f1478.other W1484 (Or.inl hn2)
      have f1497 : own_Ar Z h1484 rn .boolean mn (own_I g) := f1479.other W1484 (Ne.symm hn9)
      have z1498 : n0 ≤ h1484.size := Nat.le_trans z1480 (Keep.of_wr W1484).1
      have f1499 : own_Ar Z h1484 re .int cap (own_I (own_set ge k j)) := by rw [← own_upI]; exact ub1484 rfl W1484
      have N1484 := Fr.snoc X1484 N1466 hg3
      refine own_Go.of (S' := (T1484.setTop (mkF m 92 #[.val (.ref o), .val (.int (Int32.ofNat i)), .val (.int j)] [(.ref o), (.ref o)]))) (fun t kt => ?_) ?_
      · show Steps p.tables e below (T1484.setTop (mkF m 90 #[.val (.ref o), .val (.int (Int32.ofNat i)), .val (.int j)] [])) _
        refine XS.aloadN X1484.here hx rfl (own_hb hby d5_90) rfl rfl ?_
        show Steps p.tables e below (T1484.setTop (mkF m 91 #[.val (.ref o), .val (.int (Int32.ofNat i)), .val (.int j)] [(.ref o)])) _
        refine XS.dup X1484.here hx rfl (own_hb hby d5_91) rfl rfl ?_
        exact kt
      obtain ⟨T1500, X1500, e1500, st1500⟩ := getF X1484 hx hZ hown (host := "") (Or.inl (hw _ (List.mem_of_getElem? (i := 30) rfl))) Via.refl e1484 f1490 (g := (mkF m 92 #[.val (.ref o), .val (.int (Int32.ofNat i)), .val (.int j)] [(.ref o), (.ref o)])) rfl rfl (own_hb hby d5_92)
      refine own_Go.of (S' := (T1500.setTop (mkF m 95 #[.val (.ref o), .val (.int (Int32.ofNat i)), .val (.int j)] [(.int (Int32.ofNat k)), (.ref o)]))) st1500 ?_
      refine own_Go.of (S' := (T1500.setTop (mkF m 97 #[.val (.ref o), .val (.int (Int32.ofNat i)), .val (.int j)] [(.int (Int32.ofNat (k + 1))), (.ref o)]))) (fun t kt => ?_) ?_
      · show Steps p.tables e below (T1500.setTop (mkF m 95 #[.val (.ref o), .val (.int (Int32.ofNat i)), .val (.int j)] [(.int (Int32.ofNat k)), (.ref o)])) _
        refine XS.iconst X1500.here hx rfl (own_hb hby d5_95) ?_
        show Steps p.tables e below (T1500.setTop (mkF m 96 #[.val (.ref o), .val (.int (Int32.ofNat i)), .val (.int j)] [(.int (1 : Int32)), (.int (Int32.ofNat k)), (.ref o)])) _
        refine XS.iadd X1500.here hx rfl (own_hb hby d5_96) rfl ?_
        show Steps p.tables e below (T1500.setTop (mkF m 97 #[.val (.ref o), .val (.int (Int32.ofNat i)), .val (.int j)] [(.int ((Int32.ofNat k) + (1 : Int32))), (.ref o)])) _
        rw [show Int32.ofNat k + (1 : Int32) = Int32.ofNat (k + 1) from own_addN k 1]
        exact kt
      obtain ⟨T1501, h1501, X1501, e1501, W1501, st1501⟩ := putF X1500 hx hZ hown (host := "") (Or.inl (hw _ (List.mem_of_getElem? (i := 30) rfl))) Via.refl e1500 f1490 f1487 (Or.inl (hw _ (List.mem_of_getElem? (i := 31) rfl))) (hw _ (List.mem_of_getElem? (i := 2) rfl)) (ty := .int) (by decide) rfl rfl (g := (mkF m 97 #[.val (.ref o), .val (.int (Int32.ofNat i)), .val (.int j)] [(.int (Int32.ofNat (k + 1))), (.ref o)])) rfl rfl (own_hb hby d5_97)
      refine own_Go.of (S' := (T1501.setTop (mkF m 100 #[.val (.ref o), .val (.int (Int32.ofNat i)), .val (.int j)] []))) st1501 ?_
      have kx1502 : own_Kx h0 h1501 x := kx1485.wr W1501 hn4
      have f1503 : own_Lt h1501 x := f1486.wr W1501
      have f1504 : Exa Z h1501 o "com/example/quayside/quayside/Row" := f1487.wr W1501
      have f1505 : Fld Z h1501 o "com/example/quayside/quayside/Row" "starts" "[I" (.ref rs) := f1488.other W1501 (Or.inr (slot_ne (Or.inl (hw _ (List.mem_of_getElem? (i := 15) rfl))) (Or.inl (hw _ (List.mem_of_getElem? (i := 31) rfl))) (by decide) (t := (.array .int)) (t' := .int) (by decide) (by decide)))
      have f1506 : Fld Z h1501 o "com/example/quayside/quayside/Row" "ends" "[I" (.ref re) := f1489.other W1501 (Or.inr (slot_ne (Or.inl (hw _ (List.mem_of_getElem? (i := 17) rfl))) (Or.inl (hw _ (List.mem_of_getElem? (i := 31) rfl))) (by decide) (t := (.array .int)) (t' := .int) (by decide) (by decide)))
      have f1507 : Fld Z h1501 o "com/example/quayside/quayside/Row" "reach" "I" (.int r) := f1491.other W1501 (Or.inr (slot_ne (Or.inl (hw _ (List.mem_of_getElem? (i := 33) rfl))) (Or.inl (hw _ (List.mem_of_getElem? (i := 31) rfl))) (by decide) (t := .int) (t' := .int) (by decide) (by decide)))
      have f1508 : Fld Z h1501 o "com/example/quayside/quayside/Row" "text" "Z" (.int tx) := f1492.other W1501 (Or.inr (slot_ne (Or.inl (hw _ (List.mem_of_getElem? (i := 39) rfl))) (Or.inl (hw _ (List.mem_of_getElem? (i := 31) rfl))) (by decide) (t := .boolean) (t' := .int) (by decide) (by decide)))
      have f1509 : Fld Z h1501 o "com/example/quayside/quayside/Row" "bytes" "[B" (.ref bs) := f1493.other W1501 (Or.inr (slot_ne (Or.inl (hw _ (List.mem_of_getElem? (i := 12) rfl))) (Or.inl (hw _ (List.mem_of_getElem? (i := 31) rfl))) (by decide) (t := (.array .byte)) (t' := .int) (by decide) (by decide)))
      have f1510 : own_Ar Z h1501 rs .int cap (own_I (own_set gs k (Int32.ofNat i))) := f1494.other W1501 (Ne.symm hn1)
      have f1511 : own_Ar Z h1501 re .int cap (own_I (own_set ge k j)) := f1499.other W1501 (Ne.symm hn2)
      have f1512 : Fld Z h1501 o "com/example/quayside/quayside/Row" "nulls" "[Z" (.ref rn) := f1495.other W1501 (Or.inr (slot_ne (Or.inl (hw _ (List.mem_of_getElem? (i := 65) rfl))) (Or.inl (hw _ (List.mem_of_getElem? (i := 31) rfl))) (by decide) (t := (.array .boolean)) (t' := .int) (by decide) (by decide)))
      have f1513 : Fld Z h1501 o "com/example/quayside/quayside/Row" "nullCount" "I" (.int (Int32.ofNat c')) := f1496.other W1501 (Or.inr (slot_ne (Or.inl (hw _ (List.mem_of_getElem? (i := 52) rfl))) (Or.inl (hw _ (List.mem_of_getElem? (i := 31) rfl))) (by decide) (t := .int) (t' := .int) (by decide) (by decide)))
      have f1514 : own_Ar Z h1501 rn .boolean mn (own_I g) := f1497.other W1501 (Ne.symm hn7)
      have z1515 : n0 ≤ h1501.size := Nat.le_trans z1498 (Keep.of_wr W1501).1
      have f1516 : Fld Z h1501 o "com/example/quayside/quayside/Row" "size" "I" (.int (Int32.ofNat (k + 1))) := f1490.same W1501
      have N1501 := Fr.snoc X1501 N1484 hg1
      refine own_Go.of (S' := (T1501.setTop (mkF m 102 #[.val (.ref o), .val (.int (Int32.ofNat i)), .val (.int j)] [(.ref o), (.ref o)]))) (fun t kt => ?_) ?_
      · show Steps p.tables e below (T1501.setTop (mkF m 100 #[.val (.ref o), .val (.int (Int32.ofNat i)), .val (.int j)] [])) _
        refine XS.aloadN X1501.here hx rfl (own_hb hby d5_100) rfl rfl ?_
        show Steps p.tables e below (T1501.setTop (mkF m 101 #[.val (.ref o), .val (.int (Int32.ofNat i)), .val (.int j)] [(.ref o)])) _
        refine XS.aloadN X1501.here hx rfl (own_hb hby d5_101) rfl rfl ?_
        exact kt
      obtain ⟨T1517, X1517, e1517, st1517⟩ := getF X1501 hx hZ hown (host := "") (Or.inl (hw _ (List.mem_of_getElem? (i := 32) rfl))) Via.refl e1501 f1507 (g := (mkF m 102 #[.val (.ref o), .val (.int (Int32.ofNat i)), .val (.int j)] [(.ref o), (.ref o)])) rfl rfl (own_hb hby d5_102)
      refine own_Go.of (S' := (T1517.setTop (mkF m 105 #[.val (.ref o), .val (.int (Int32.ofNat i)), .val (.int j)] [(.int r), (.ref o)]))) st1517 ?_
      refine own_Go.of (S' := (T1517.setTop (mkF m 106 #[.val (.ref o), .val (.int (Int32.ofNat i)), .val (.int j)] [(.int j), (.int r), (.ref o)]))) (fun t kt => ?_) ?_
      · show Steps p.tables e below (T1517.setTop (mkF m 105 #[.val (.ref o), .val (.int (Int32.ofNat i)), .val (.int j)] [(.int r), (.ref o)])) _
        refine XS.iloadN X1517.here hx rfl (own_hb hby d5_105) rfl ?_
        exact kt
      obtain ⟨_, _, ⟨T1518, L1518, k1518, n1518⟩, -, X1518, ⟨Lc1518, hQ1518, l1518, y1518, z1518⟩, st1518⟩ := Jvm.LawKit.callS X1517 hx (y := (⟨"java/lang/Math", "max", "(II)I"⟩ : MethodName)) hown (mvT hZ (hw _ (List.mem_of_getElem? (i := 34) rfl))) (mvT hZ (hw _ (List.mem_of_getElem? (i := 35) rfl))) (mvT hZ (hw _ (List.mem_of_getElem? (i := 36) rfl))) (mvT hZ (hw _ (List.mem_of_getElem? (i := 37) rfl))) (by decide) (backOf (W := 1) (rm6 l Z a0 hw [] r j h1501 n0 z1515 ) hZ (hw _ (List.mem_of_getElem? (i := 37) rfl)) (hw _ (List.mem_of_getElem? (i := 36) rfl)) (by decide) (by decide)) (g := (mkF m 106 #[.val (.ref o), .val (.int (Int32.ofNat i)), .val (.int j)] [(.int j), (.int r), (.ref o)])) rfl (by rw [hml]; rfl) (argsL := [(.int r), (.int j)]) (rest := [(.ref o)]) (lenOf pd_0 rfl) rfl (by show 2 * 0 + _ ≤ _; exact Nat.le_of_eq rfl) (own_hb hby d5_106) (fun _ _ => ⟨rfl, e1517, (by decide : 0 + 0 ≤ _), (by decide : 0 + 0 ≤ _)⟩)
      dsimp only [Pt.U, Pt.locs, Pt.cells, Pt.slots] at X1518 l1518 y1518 z1518 st1518 hQ1518
      subst l1518 y1518 z1518
      obtain ⟨rfl, N1518q, hh1518⟩ := hQ1518
      have N1518 := Fr.app N1501 N1518q
      refine own_Go.of (S' := (T1518.setTop (mkF m 109 #[.val (.ref o), .val (.int (Int32.ofNat i)), .val (.int j)] [(.int (own_maxI r j)), (.ref o)]))) (fun t kt => st1518 t kt) ?_
      obtain ⟨T1519, h1519, X1519, e1519, W1519, st1519⟩ := putF X1518 hx hZ hown (host := "") (Or.inl (hw _ (List.mem_of_getElem? (i := 32) rfl))) Via.refl hh1518 f1507 f1504 (Or.inl (hw _ (List.mem_of_getElem? (i := 33) rfl))) (hw _ (List.mem_of_getElem? (i := 2) rfl)) (ty := .int) (by decide) rfl rfl (g := (mkF m 109 #[.val (.ref o), .val (.int (Int32.ofNat i)), .val (.int j)] [(.int (own_maxI r j)), (.ref o)])) rfl rfl (own_hb hby d5_109)
      refine own_Go.of (S' := (T1519.setTop (mkF m 112 #[.val (.ref o), .val (.int (Int32.ofNat i)), .val (.int j)] []))) st1519 ?_
      have kx1520 : own_Kx h0 h1519 x := kx1502.wr W1519 hn4
      have f1521 : own_Lt h1519 x := f1503.wr W1519
      have f1522 : Exa Z h1519 o "com/example/quayside/quayside/Row" := f1504.wr W1519
      have f1523 : Fld Z h1519 o "com/example/quayside/quayside/Row" "starts" "[I" (.ref rs) := f1505.other W1519 (Or.inr (slot_ne (Or.inl (hw _ (List.mem_of_getElem? (i := 15) rfl))) (Or.inl (hw _ (List.mem_of_getElem? (i := 33) rfl))) (by decide) (t := (.array .int)) (t' := .int) (by decide) (by decide)))
      have f1524 : Fld Z h1519 o "com/example/quayside/quayside/Row" "ends" "[I" (.ref re) := f1506.other W1519 (Or.inr (slot_ne (Or.inl (hw _ (List.mem_of_getElem? (i := 17) rfl))) (Or.inl (hw _ (List.mem_of_getElem? (i := 33) rfl))) (by decide) (t := (.array .int)) (t' := .int) (by decide) (by decide)))
      have f1525 : Fld Z h1519 o "com/example/quayside/quayside/Row" "size" "I" (.int (Int32.ofNat (k + 1))) := f1516.other W1519 (Or.inr (slot_ne (Or.inl (hw _ (List.mem_of_getElem? (i := 31) rfl))) (Or.inl (hw _ (List.mem_of_getElem? (i := 33) rfl))) (by decide) (t := .int) (t' := .int) (by decide) (by decide)))
      have f1526 : Fld Z h1519 o "com/example/quayside/quayside/Row" "text" "Z" (.int tx) := f1508.other W1519 (Or.inr (slot_ne (Or.inl (hw _ (List.mem_of_getElem? (i := 39) rfl))) (Or.inl (hw _ (List.mem_of_getElem? (i := 33) rfl))) (by decide) (t := .boolean) (t' := .int) (by decide) (by decide)))
      have f1527 : Fld Z h1519 o "com/example/quayside/quayside/Row" "bytes" "[B" (.ref bs) := f1509.other W1519 (Or.inr (slot_ne (Or.inl (hw _ (List.mem_of_getElem? (i := 12) rfl))) (Or.inl (hw _ (List.mem_of_getElem? (i := 33) rfl))) (by decide) (t := (.array .byte)) (t' := .int) (by decide) (by decide)))
      have f1528 : own_Ar Z h1519 rs .int cap (own_I (own_set gs k (Int32.ofNat i))) := f1510.other W1519 (Ne.symm hn1)
      have f1529 : own_Ar Z h1519 re .int cap (own_I (own_set ge k j)) := f1511.other W1519 (Ne.symm hn2)
      have f1530 : Fld Z h1519 o "com/example/quayside/quayside/Row" "nulls" "[Z" (.ref rn) := f1512.other W1519 (Or.inr (slot_ne (Or.inl (hw _ (List.mem_of_getElem? (i := 65) rfl))) (Or.inl (hw _ (List.mem_of_getElem? (i := 33) rfl))) (by decide) (t := (.array .boolean)) (t' := .int) (by decide) (by decide)))
      have f1531 : Fld Z h1519 o "com/example/quayside/quayside/Row" "nullCount" "I" (.int (Int32.ofNat c')) := f1513.other W1519 (Or.inr (slot_ne (Or.inl (hw _ (List.mem_of_getElem? (i := 52) rfl))) (Or.inl (hw _ (List.mem_of_getElem? (i := 33) rfl))) (by decide) (t := .int) (t' := .int) (by decide) (by decide)))
      have f1532 : own_Ar Z h1519 rn .boolean mn (own_I g) := f1514.other W1519 (Ne.symm hn7)
      have z1533 : n0 ≤ h1519.size := Nat.le_trans z1515 (Keep.of_wr W1519).1
      have f1534 : Fld Z h1519 o "com/example/quayside/quayside/Row" "reach" "I" (.int (own_maxI r j)) := f1507.same W1519
      have N1519 := Fr.snoc X1519 N1518 hg1
      refine own_Go.of (S' := (T1519.setTop (mkF m 114 #[.val (.ref o), .val (.int (Int32.ofNat i)), .val (.int j)] [(.int (0 : Int32)), (.ref o)]))) (fun t kt => ?_) ?_
      · show Steps p.tables e below (T1519.setTop (mkF m 112 #[.val (.ref o), .val (.int (Int32.ofNat i)), .val (.int j)] [])) _
        refine XS.aloadN X1519.here hx rfl (own_hb hby d5_112) rfl rfl ?_
        show Steps p.tables e below (T1519.setTop (mkF m 113 #[.val (.ref o), .val (.int (Int32.ofNat i)), .val (.int j)] [(.ref o)])) _
        refine XS.iconst X1519.here hx rfl (own_hb hby d5_113) ?_
        exact kt
      obtain ⟨T1535, h1535, X1535, e1535, W1535, st1535⟩ := putFN X1519 hx hZ hown (hw _ (List.mem_of_getElem? (i := 38) rfl)) Via.refl e1519 f1526 f1522 (Or.inl (hw _ (List.mem_of_getElem? (i := 39) rfl))) (hw _ (List.mem_of_getElem? (i := 2) rfl)) (ty := .boolean) (v' := (.int (nar .boolean (0 : Int32)))) (by decide) rfl (fits_nar_bool _) (g := (mkF m 114 #[.val (.ref o), .val (.int (Int32.ofNat i)), .val (.int j)] [(.int (0 : Int32)), (.ref o)])) rfl rfl (own_hb hby d5_114)
      refine own_Go.of (S' := (T1535.setTop (mkF m 117 #[.val (.ref o), .val (.int (Int32.ofNat i)), .val (.int j)] []))) st1535 ?_
      have kx1536 : own_Kx h0 h1535 x := kx1520.wr W1535 hn4
      have f1537 : own_Lt h1535 x := f1521.wr W1535
      have f1538 : Exa Z h1535 o "com/example/quayside/quayside/Row" := f1522.wr W1535
      have f1539 : Fld Z h1535 o "com/example/quayside/quayside/Row" "starts" "[I" (.ref rs) := f1523.other W1535 (Or.inr (slot_ne (Or.inl (hw _ (List.mem_of_getElem? (i := 15) rfl))) (Or.inl (hw _ (List.mem_of_getElem? (i := 39) rfl))) (by decide) (t := (.array .int)) (t' := .boolean) (by decide) (by decide)))
      have f1540 : Fld Z h1535 o "com/example/quayside/quayside/Row" "ends" "[I" (.ref re) := f1524.other W1535 (Or.inr (slot_ne (Or.inl (hw _ (List.mem_of_getElem? (i := 17) rfl))) (Or.inl (hw _ (List.mem_of_getElem? (i := 39) rfl))) (by decide) (t := (.array .int)) (t' := .boolean) (by decide) (by decide)))
      have f1541 : Fld Z h1535 o "com/example/quayside/quayside/Row" "size" "I" (.int (Int32.ofNat (k + 1))) := f1525.other W1535 (Or.inr (slot_ne (Or.inl (hw _ (List.mem_of_getElem? (i := 31) rfl))) (Or.inl (hw _ (List.mem_of_getElem? (i := 39) rfl))) (by decide) (t := .int) (t' := .boolean) (by decide) (by decide)))
      have f1542 : Fld Z h1535 o "com/example/quayside/quayside/Row" "reach" "I" (.int (own_maxI r j)) := f1534.other W1535 (Or.inr (slot_ne (Or.inl (hw _ (List.mem_of_getElem? (i := 33) rfl))) (Or.inl (hw _ (List.mem_of_getElem? (i := 39) rfl))) (by decide) (t := .int) (t' := .boolean) (by decide) (by decide)))
      have f1543 : Fld Z h1535 o "com/example/quayside/quayside/Row" "bytes" "[B" (.ref bs) := f1527.other W1535 (Or.inr (slot_ne (Or.inl (hw _ (List.mem_of_getElem? (i := 12) rfl))) (Or.inl (hw _ (List.mem_of_getElem? (i := 39) rfl))) (by decide) (t := (.array .byte)) (t' := .boolean) (by decide) (by decide)))
      have f1544 : own_Ar Z h1535 rs .int cap (own_I (own_set gs k (Int32.ofNat i))) := f1528.other W1535 (Ne.symm hn1)
      have f1545 : own_Ar Z h1535 re .int cap (own_I (own_set ge k j)) := f1529.other W1535 (Ne.symm hn2)
      have f1546 : Fld Z h1535 o "com/example/quayside/quayside/Row" "nulls" "[Z" (.ref rn) := f1530.other W1535 (Or.inr (slot_ne (Or.inl (hw _ (List.mem_of_getElem? (i := 65) rfl))) (Or.inl (hw _ (List.mem_of_getElem? (i := 39) rfl))) (by decide) (t := (.array .boolean)) (t' := .boolean) (by decide) (by decide)))
      have f1547 : Fld Z h1535 o "com/example/quayside/quayside/Row" "nullCount" "I" (.int (Int32.ofNat c')) := f1531.other W1535 (Or.inr (slot_ne (Or.inl (hw _ (List.mem_of_getElem? (i := 52) rfl))) (Or.inl (hw _ (List.mem_of_getElem? (i := 39) rfl))) (by decide) (t := .int) (t' := .boolean) (by decide) (by decide)))
      have f1548 : own_Ar Z h1535 rn .boolean mn (own_I g) := f1532.other W1535 (Ne.symm hn7)
      have z1549 : n0 ≤ h1535.size := Nat.le_trans z1533 (Keep.of_wr W1535).1
      have f1550 : Fld Z h1535 o "com/example/quayside/quayside/Row" "text" "Z" (.int (nar .boolean (0 : Int32))) := f1526.same W1535
      have N1535 := Fr.snoc X1535 N1519 hg1
      have f1551 : Fld Z h1535 o "com/example/quayside/quayside/Row" "text" "Z" (.int (0 : Int32)) := f1550
      exact own_retV X1535 hx hlk hret (own_hb hby d5_117) e1535 ⟨cap, rfl, N1535, kx1536, ⟨rs, re, bs, (own_set gs k (Int32.ofNat i)), (own_set ge k j), (0 : Int32), (own_maxI r j), f1538, f1539, f1540, f1541, f1542, f1551, f1543, f1544, f1545, hg1, hg2, hg3, hn1, hn2, hn3, hn4, hn5, hn6, (by omega), (by omega), own_s01 hf01 (Or.inl rfl), Or.inr ⟨rn, mn, c', g, f1546, f1547, f1548, hg4, hn7, hn8, hn9, hn10, (by omega), (by omega), (by omega), own_nD hq1, own_nE hq2, hq3⟩⟩⟩ (by decide) (by decide)
    · skip
      refine own_Go.of (S' := (T0.setTop (mkF m 25 #[.val (.ref o), .val (.int (Int32.ofNat i)), .val (.int j)] [(.ref o)]))) (fun t kt => ?_) ?_
      · show Steps p.tables e below (T0.setTop (mkF m 0 #[.val (.ref o), .val (.int (Int32.ofNat i)), .val (.int j)] [])) _
        refine XS.iloadN X0.here hx rfl (own_hb hby d5_0) rfl ?_
        show Steps p.tables e below (T0.setTop (mkF m 1 #[.val (.ref o), .val (.int (Int32.ofNat i)), .val (.int j)] [(.int (Int32.ofNat i))])) _
        refine XS.ifNo X0.here hx rfl (own_hb hby d5_1) rfl ((if0 _ _).trans (flt (fun q => by have h2 := (own_ltN (b := 0) hi (by decide)).mp q; omega)).1) ?_
        show Steps p.tables e below (T0.setTop (mkF m 4 #[.val (.ref o), .val (.int (Int32.ofNat i)), .val (.int j)] [])) _
        refine XS.iloadN X0.here hx rfl (own_hb hby d5_4) rfl ?_
        show Steps p.tables e below (T0.setTop (mkF m 5 #[.val (.ref o), .val (.int (Int32.ofNat i)), .val (.int j)] [(.int j)])) _
        refine XS.iloadN X0.here hx rfl (own_hb hby d5_5) rfl ?_
        show Steps p.tables e below (T0.setTop (mkF m 6 #[.val (.ref o), .val (.int (Int32.ofNat i)), .val (.int j)] [(.int (Int32.ofNat i)), (.int j)])) _
        refine XS.icmpYes X0.here hx rfl (pc0 := 6) (pc' := 24) rfl (own_hb hby d5_6) rfl (flt hij).2.1 (by decide) (by decide) ?_
        show Steps p.tables e below (T0.setTop (mkF m 24 #[.val (.ref o), .val (.int (Int32.ofNat i)), .val (.int j)] [])) _
        refine XS.aloadN X0.here hx rfl (own_hb hby d5_24) rfl rfl ?_
        exact kt
      obtain ⟨T1552, X1552, e1552, st1552⟩ := getF X0 hx hZ hown (host := "") (Or.inl (hw _ (List.mem_of_getElem? (i := 30) rfl))) Via.refl e0 hF3 (g := (mkF m 25 #[.val (.ref o), .val (.int (Int32.ofNat i)), .val (.int j)] [(.ref o)])) rfl rfl (own_hb hby d5_25)
      refine own_Go.of (S' := (T1552.setTop (mkF m 28 #[.val (.ref o), .val (.int (Int32.ofNat i)), .val (.int j)] [(.int (Int32.ofNat k))]))) st1552 ?_
      refine own_Go.of (S' := (T1552.setTop (mkF m 29 #[.val (.ref o), .val (.int (Int32.ofNat i)), .val (.int j)] [(.ref o), (.int (Int32.ofNat k))]))) (fun t kt => ?_) ?_
      · show Steps p.tables e below (T1552.setTop (mkF m 28 #[.val (.ref o), .val (.int (Int32.ofNat i)), .val (.int j)] [(.int (Int32.ofNat k))])) _
        refine XS.aloadN X1552.here hx rfl (own_hb hby d5_28) rfl rfl ?_
        exact kt
      obtain ⟨T1553, X1553, e1553, st1553⟩ := getF X1552 hx hZ hown (host := "") (Or.inl (hw _ (List.mem_of_getElem? (i := 14) rfl))) Via.refl e1552 hF1 (g := (mkF m 29 #[.val (.ref o), .val (.int (Int32.ofNat i)), .val (.int j)] [(.ref o), (.int (Int32.ofNat k))])) rfl rfl (own_hb hby d5_29)
      refine own_Go.of (S' := (T1553.setTop (mkF m 32 #[.val (.ref o), .val (.int (Int32.ofNat i)), .val (.int j)] [(.ref rs), (.int (Int32.ofNat k))]))) st1553 ?_
      obtain ⟨cl1554, Ar1554, hln1554⟩ := own_Ar.len hA1
      refine own_Go.of (S' := (T1553.setTop (mkF m 38 #[.val (.ref o), .val (.int (Int32.ofNat i)), .val (.int j)] [(.ref o), (.ref o)]))) (fun t kt => ?_) ?_
      · show Steps p.tables e below (T1553.setTop (mkF m 32 #[.val (.ref o), .val (.int (Int32.ofNat i)), .val (.int j)] [(.ref rs), (.int (Int32.ofNat k))])) _
        refine X1553.arraylength hx (by rw [e1553]; exact Ar1554.1) (State.isArrayOf_alike hZ.alike Ar1554.2.1) (g := (mkF m 32 #[.val (.ref o), .val (.int (Int32.ofNat i)), .val (.int j)] [(.ref rs), (.int (Int32.ofNat k))])) rfl rfl (own_hb hby d5_32) _ ?_
        rw [hln1554]
        show Steps p.tables e below (T1553.setTop (mkF m 33 #[.val (.ref o), .val (.int (Int32.ofNat i)), .val (.int j)] [(.int (Int32.ofNat cap)), (.int (Int32.ofNat k))])) _
        refine XS.icmpNo X1553.here hx rfl (own_hb hby d5_33) rfl (teq (own_eqN' (by omega))).2 ?_
        show Steps p.tables e below (T1553.setTop (mkF m 36 #[.val (.ref o), .val (.int (Int32.ofNat i)), .val (.int j)] [])) _
        refine XS.aloadN X1553.here hx rfl (own_hb hby d5_36) rfl rfl ?_
        show Steps p.tables e below (T1553.setTop (mkF m 37 #[.val (.ref o), .val (.int (Int32.ofNat i)), .val (.int j)] [(.ref o)])) _
        refine XS.aloadN X1553.here hx rfl (own_hb hby d5_37) rfl rfl ?_
        exact kt
      obtain ⟨T1555, X1555, e1555, st1555⟩ := getF X1553 hx hZ hown (host := "") (Or.inl (hw _ (List.mem_of_getElem? (i := 14) rfl))) Via.refl e1553 hF1 (g := (mkF m 38 #[.val (.ref o), .val (.int (Int32.ofNat i)), .val (.int j)] [(.ref o), (.ref o)])) rfl rfl (own_hb hby d5_38)
      refine own_Go.of (S' := (T1555.setTop (mkF m 41 #[.val (.ref o), .val (.int (Int32.ofNat i)), .val (.int j)] [(.ref rs), (.ref o)]))) st1555 ?_
      refine own_Go.of (S' := (T1555.setTop (mkF m 43 #[.val (.ref o), .val (.int (Int32.ofNat i)), .val (.int j)] [(.ref o), (.int (2 : Int32)), (.ref rs), (.ref o)]))) (fun t kt => ?_) ?_
      · show Steps p.tables e below (T1555.setTop (mkF m 41 #[.val (.ref o), .val (.int (Int32.ofNat i)), .val (.int j)] [(.ref rs), (.ref o)])) _
        refine XS.iconst X1555.here hx rfl (own_hb hby d5_41) ?_
        show Steps p.tables e below (T1555.setTop (mkF m 42 #[.val (.ref o), .val (.int (Int32.ofNat i)), .val (.int j)] [(.int (2 : Int32)), (.ref rs), (.ref o)])) _
        refine XS.aloadN X1555.here hx rfl (own_hb hby d5_42) rfl rfl ?_
        exact kt
      obtain ⟨T1556, X1556, e1556, st1556⟩ := getF X1555 hx hZ hown (host := "") (Or.inl (hw _ (List.mem_of_getElem? (i := 30) rfl))) Via.refl e1555 hF3 (g := (mkF m 43 #[.val (.ref o), .val (.int (Int32.ofNat i)), .val (.int j)] [(.ref o), (.int (2 : Int32)), (.ref rs), (.ref o)])) rfl rfl (own_hb hby d5_43)
      refine own_Go.of (S' := (T1556.setTop (mkF m 46 #[.val (.ref o), .val (.int (Int32.ofNat i)), .val (.int j)] [(.int (Int32.ofNat k)), (.int (2 : Int32)), (.ref rs), (.ref o)]))) st1556 ?_
      refine own_Go.of (S' := (T1556.setTop (mkF m 47 #[.val (.ref o), .val (.int (Int32.ofNat i)), .val (.int j)] [(.int (Int32.ofNat (2 * k))), (.ref rs), (.ref o)]))) (fun t kt => ?_) ?_
      · show Steps p.tables e below (T1556.setTop (mkF m 46 #[.val (.ref o), .val (.int (Int32.ofNat i)), .val (.int j)] [(.int (Int32.ofNat k)), (.int (2 : Int32)), (.ref rs), (.ref o)])) _
        refine XS.imul X1556.here hx rfl (own_hb hby d5_46) rfl ?_
        show Steps p.tables e below (T1556.setTop (mkF m 47 #[.val (.ref o), .val (.int (Int32.ofNat i)), .val (.int j)] [(.int ((2 : Int32) * (Int32.ofNat k))), (.ref rs), (.ref o)])) _
        rw [show (2 : Int32) * Int32.ofNat k = Int32.ofNat (2 * k) from (Int32.ofNat_mul 2 k).symm]
        exact kt
      obtain ⟨_, _, ⟨T1557, L1557, k1557, n1557⟩, -, X1557, ⟨Lc1557, hQ1557, l1557, y1557, z1557⟩, st1557⟩ := Jvm.LawKit.callS X1556 hx (y := (⟨"java/util/Arrays", "copyOf", "([II)[I"⟩ : MethodName)) hown (mvT hZ (hw _ (List.mem_of_getElem? (i := 77) rfl))) (mvT hZ (hw _ (List.mem_of_getElem? (i := 78) rfl))) (mvT hZ (hw _ (List.mem_of_getElem? (i := 68) rfl))) (mvT hZ (hw _ (List.mem_of_getElem? (i := 79) rfl))) (by decide) (backOf (W := 1) (rm13 l Z a0 hw [] rs (2 * k) cap gs h0 n0 Z0 hA1 (by omega) (by omega)) hZ (hw _ (List.mem_of_getElem? (i := 79) rfl)) (hw _ (List.mem_of_getElem? (i := 68) rfl)) (by decide) (by decide)) (g := (mkF m 47 #[.val (.ref o), .val (.int (Int32.ofNat i)), .val (.int j)] [(.int (Int32.ofNat (2 * k))), (.ref rs), (.ref o)])) rfl (by rw [hml]; rfl) (argsL := [(.ref rs), (.int (Int32.ofNat (2 * k)))]) (rest := [(.ref o)]) (lenOf pd_1 rfl) rfl (by show 2 * 0 + _ ≤ _; exact Nat.le_of_eq rfl) (own_hb hby d5_47) (fun _ _ => ⟨rfl, e1556, (by decide : 0 + 1 ≤ _), (by decide : 0 + 8 ≤ _)⟩)
      dsimp only [Pt.U, Pt.locs, Pt.cells, Pt.slots] at X1557 l1557 y1557 z1557 st1557 hQ1557
      subst l1557 y1557 z1557
      obtain ⟨b1557, rfl, N1557q, K1557, p1557_0, p1557_1⟩ := hQ1557
      have N1557 := Fr.app N0 N1557q
      refine own_Go.of (S' := (T1557.setTop (mkF m 50 #[.val (.ref o), .val (.int (Int32.ofNat i)), .val (.int j)] [(.ref b1557), (.ref o)]))) (fun t kt => st1557 t kt) ?_
      have gx1558 : n0 ≤ b1557 := Nat.le_trans Z0 p1557_0
      have ne1559 : x ≠ b1557 := Nat.ne_of_lt (Nat.lt_of_lt_of_le pr4.lt p1557_0)
      have ne1560 : o ≠ b1557 := Nat.ne_of_lt (Nat.lt_of_lt_of_le hE.lt p1557_0)
      have ne1561 : rs ≠ b1557 := Nat.ne_of_lt (Nat.lt_of_lt_of_le hA1.lt p1557_0)
      have ne1562 : re ≠ b1557 := Nat.ne_of_lt (Nat.lt_of_lt_of_le hA2.lt p1557_0)
      have ne1563 : rn ≠ b1557 := Nat.ne_of_lt (Nat.lt_of_lt_of_le hA3.lt p1557_0)
      have kx1564 : own_Kx h0 T1557.heap x := kx0.keep K1557 nin0
      have f1565 : own_Lt T1557.heap x := pr4.keep K1557
      have f1566 : Exa Z T1557.heap o "com/example/quayside/quayside/Row" := hE.keep K1557
      have f1567 : Fld Z T1557.heap o "com/example/quayside/quayside/Row" "starts" "[I" (.ref rs) := hF1.keep K1557 nin0
      have f1568 : Fld Z T1557.heap o "com/example/quayside/quayside/Row" "ends" "[I" (.ref re) := hF2.keep K1557 nin0
      have f1569 : Fld Z T1557.heap o "com/example/quayside/quayside/Row" "size" "I" (.int (Int32.ofNat k)) := hF3.keep K1557 nin0
      have f1570 : Fld Z T1557.heap o "com/example/quayside/quayside/Row" "reach" "I" (.int r) := hF4.keep K1557 nin0
      have f1571 : Fld Z T1557.heap o "com/example/quayside/quayside/Row" "text" "Z" (.int tx) := hF5.keep K1557 nin0
      have f1572 : Fld Z T1557.heap o "com/example/quayside/quayside/Row" "bytes" "[B" (.ref bs) := hF6.keep K1557 nin0
      have f1573 : own_Ar Z T1557.heap rs .int cap (own_I gs) := hA1.keep K1557 nin0
      have f1574 : own_Ar Z T1557.heap re .int cap (own_I ge) := hA2.keep K1557 nin0
      have f1575 : Fld Z T1557.heap o "com/example/quayside/quayside/Row" "nulls" "[Z" (.ref rn) := hm1.keep K1557 nin0
      have f1576 : Fld Z T1557.heap o "com/example/quayside/quayside/Row" "nullCount" "I" (.int (Int32.ofNat c')) := hm2.keep K1557 nin0
      have f1577 : own_Ar Z T1557.heap rn .boolean mn (own_I g) := hA3.keep K1557 nin0
      have z1578 : n0 ≤ T1557.heap.size := Nat.le_trans Z0 K1557.1
      obtain ⟨T1579, h1579, X1579, e1579, W1579, st1579⟩ := putF X1557 hx hZ hown (host := "") (Or.inl (hw _ (List.mem_of_getElem? (i := 14) rfl))) Via.refl rfl f1567 f1566 (Or.inl (hw _ (List.mem_of_getElem? (i := 15) rfl))) (hw _ (List.mem_of_getElem? (i := 2) rfl)) (ty := (.array .int)) (by decide) rfl rfl (g := (mkF m 50 #[.val (.ref o), .val (.int (Int32.ofNat i)), .val (.int j)] [(.ref b1557), (.ref o)])) rfl rfl (own_hb hby d5_50)
      refine own_Go.of (S' := (T1579.setTop (mkF m 53 #[.val (.ref o), .val (.int (Int32.ofNat i)), .val (.int j)] []))) st1579 ?_
      have kx1580 : own_Kx h0 h1579 x := kx1564.wr W1579 hn4
      have f1581 : own_Lt h1579 x := f1565.wr W1579
      have f1582 : Exa Z h1579 o "com/example/quayside/quayside/Row" := f1566.wr W1579
      have f1583 : Fld Z h1579 o "com/example/quayside/quayside/Row" "ends" "[I" (.ref re) := f1568.other W1579 (Or.inr (slot_ne (Or.inl (hw _ (List.mem_of_getElem? (i := 17) rfl))) (Or.inl (hw _ (List.mem_of_getElem? (i := 15) rfl))) (by decide) (t := (.array .int)) (t' := (.array .int)) (by decide) (by decide)))
      have f1584 : Fld Z h1579 o "com/example/quayside/quayside/Row" "size" "I" (.int (Int32.ofNat k)) := f1569.other W1579 (Or.inr (slot_ne (Or.inl (hw _ (List.mem_of_getElem? (i := 31) rfl))) (Or.inl (hw _ (List.mem_of_getElem? (i := 15) rfl))) (by decide) (t := .int) (t' := (.array .int)) (by decide) (by decide)))
      have f1585 : Fld Z h1579 o "com/example/quayside/quayside/Row" "reach" "I" (.int r) := f1570.other W1579 (Or.inr (slot_ne (Or.inl (hw _ (List.mem_of_getElem? (i := 33) rfl))) (Or.inl (hw _ (List.mem_of_getElem? (i := 15) rfl))) (by decide) (t := .int) (t' := (.array .int)) (by decide) (by decide)))
      have f1586 : Fld Z h1579 o "com/example/quayside/quayside/Row" "text" "Z" (.int tx) := f1571.other W1579 (Or.inr (slot_ne (Or.inl (hw _ (List.mem_of_getElem? (i := 39) rfl))) (Or.inl (hw _ (List.mem_of_getElem? (i := 15) rfl))) (by decide) (t := .boolean) (t' := (.array .int)) (by decide) (by decide)))
      have f1587 : Fld Z h1579 o "com/example/quayside/quayside/Row" "bytes" "[B" (.ref bs) := f1572.other W1579 (Or.inr (slot_ne (Or.inl (hw _ (List.mem_of_getElem? (i := 12) rfl))) (Or.inl (hw _ (List.mem_of_getElem? (i := 15) rfl))) (by decide) (t := (.array .byte)) (t' := (.array .int)) (by decide) (by decide)))
      have f1588 : own_Ar Z h1579 rs .int cap (own_I gs) := f1573.other W1579 (Ne.symm hn1)
      have f1589 : own_Ar Z h1579 re .int cap (own_I ge) := f1574.other W1579 (Ne.symm hn2)
      have f1590 : Fld Z h1579 o "com/example/quayside/quayside/Row" "nulls" "[Z" (.ref rn) := f1575.other W1579 (Or.inr (slot_ne (Or.inl (hw _ (List.mem_of_getElem? (i := 65) rfl))) (Or.inl (hw _ (List.mem_of_getElem? (i := 15) rfl))) (by decide) (t := (.array .boolean)) (t' := (.array .int)) (by decide) (by decide)))
      have f1591 : Fld Z h1579 o "com/example/quayside/quayside/Row" "nullCount" "I" (.int (Int32.ofNat c')) := f1576.other W1579 (Or.inr (slot_ne (Or.inl (hw _ (List.mem_of_getElem? (i := 52) rfl))) (Or.inl (hw _ (List.mem_of_getElem? (i := 15) rfl))) (by decide) (t := .int) (t' := (.array .int)) (by decide) (by decide)))
      have f1592 : own_Ar Z h1579 rn .boolean mn (own_I g) := f1577.other W1579 (Ne.symm hn7)
      have f1593 : own_Ar Z h1579 b1557 .int (2 * k) (own_I (own_cpy gs cap)) := p1557_1.other W1579 (Ne.symm ne1560)
      have z1594 : n0 ≤ h1579.size := Nat.le_trans z1578 (Keep.of_wr W1579).1
      have f1595 : Fld Z h1579 o "com/example/quayside/quayside/Row" "starts" "[I" (.ref b1557) := f1567.same W1579
      have N1579 := Fr.snoc X1579 N1557 hg1
      refine own_Go.of (S' := (T1579.setTop (mkF m 55 #[.val (.ref o), .val (.int (Int32.ofNat i)), .val (.int j)] [(.ref o), (.ref o)]))) (fun t kt => ?_) ?_
      · show Steps p.tables e below (T1579.setTop (mkF m 53 #[.val (.ref o), .val (.int (Int32.ofNat i)), .val (.int j)] [])) _
        refine XS.aloadN X1579.here hx rfl (own_hb hby d5_53) rfl rfl ?_
        show Steps p.tables e below (T1579.setTop (mkF m 54 #[.val (.ref o), .val (.int (Int32.ofNat i)), .val (.int j)] [(.ref o)])) _
        refine XS.aloadN X1579.here hx rfl (own_hb hby d5_54) rfl rfl ?_
        exact kt
      obtain ⟨T1596, X1596, e1596, st1596⟩ := getF X1579 hx hZ hown (host := "") (Or.inl (hw _ (List.mem_of_getElem? (i := 16) rfl))) Via.refl e1579 f1583 (g := (mkF m 55 #[.val (.ref o), .val (.int (Int32.ofNat i)), .val (.int j)] [(.ref o), (.ref o)])) rfl rfl (own_hb hby d5_55)
      refine own_Go.of (S' := (T1596.setTop (mkF m 58 #[.val (.ref o), .val (.int (Int32.ofNat i)), .val (.int j)] [(.ref re), (.ref o)]))) st1596 ?_
      refine own_Go.of (S' := (T1596.setTop (mkF m 60 #[.val (.ref o), .val (.int (Int32.ofNat i)), .val (.int j)] [(.ref o), (.int (2 : Int32)), (.ref re), (.ref o)]))) (fun t kt => ?_) ?_
      · show Steps p.tables e below (T1596.setTop (mkF m 58 #[.val (.ref o), .val (.int (Int32.ofNat i)), .val (.int j)] [(.ref re), (.ref o)])) _
        refine XS.iconst X1596.here hx rfl (own_hb hby d5_58) ?_
        show Steps p.tables e below (T1596.setTop (mkF m 59 #[.val (.ref o), .val (.int (Int32.ofNat i)), .val (.int j)] [(.int (2 : Int32)), (.ref re), (.ref o)])) _
        refine XS.aloadN X1596.here hx rfl (own_hb hby d5_59) rfl rfl ?_
        exact kt
      obtain ⟨T1597, X1597, e1597, st1597⟩ := getF X1596 hx hZ hown (host := "") (Or.inl (hw _ (List.mem_of_getElem? (i := 30) rfl))) Via.refl e1596 f1584 (g := (mkF m 60 #[.val (.ref o), .val (.int (Int32.ofNat i)), .val (.int j)] [(.ref o), (.int (2 : Int32)), (.ref re), (.ref o)])) rfl rfl (own_hb hby d5_60)
      refine own_Go.of (S' := (T1597.setTop (mkF m 63 #[.val (.ref o), .val (.int (Int32.ofNat i)), .val (.int j)] [(.int (Int32.ofNat k)), (.int (2 : Int32)), (.ref re), (.ref o)]))) st1597 ?_
      refine own_Go.of (S' := (T1597.setTop (mkF m 64 #[.val (.ref o), .val (.int (Int32.ofNat i)), .val (.int j)] [(.int (Int32.ofNat (2 * k))), (.ref re), (.ref o)]))) (fun t kt => ?_) ?_
      · show Steps p.tables e below (T1597.setTop (mkF m 63 #[.val (.ref o), .val (.int (Int32.ofNat i)), .val (.int j)] [(.int (Int32.ofNat k)), (.int (2 : Int32)), (.ref re), (.ref o)])) _
        refine XS.imul X1597.here hx rfl (own_hb hby d5_63) rfl ?_
        show Steps p.tables e below (T1597.setTop (mkF m 64 #[.val (.ref o), .val (.int (Int32.ofNat i)), .val (.int j)] [(.int ((2 : Int32) * (Int32.ofNat k))), (.ref re), (.ref o)])) _
        rw [show (2 : Int32) * Int32.ofNat k = Int32.ofNat (2 * k) from (Int32.ofNat_mul 2 k).symm]
        exact kt
      obtain ⟨_, _, ⟨T1598, L1598, k1598, n1598⟩, -, X1598, ⟨Lc1598, hQ1598, l1598, y1598, z1598⟩, st1598⟩ := Jvm.LawKit.callS X1597 hx (y := (⟨"java/util/Arrays", "copyOf", "([II)[I"⟩ : MethodName)) hown (mvT hZ (hw _ (List.mem_of_getElem? (i := 77) rfl))) (mvT hZ (hw _ (List.mem_of_getElem? (i := 78) rfl))) (mvT hZ (hw _ (List.mem_of_getElem? (i := 68) rfl))) (mvT hZ (hw _ (List.mem_of_getElem? (i := 79) rfl))) (by decide) (backOf (W := 1) (rm13 l Z a0 hw [] re (2 * k) cap ge h1579 n0 z1594 f1589 (by omega) (by omega)) hZ (hw _ (List.mem_of_getElem? (i := 79) rfl)) (hw _ (List.mem_of_getElem? (i := 68) rfl)) (by decide) (by decide)) (g := (mkF m 64 #[.val (.ref o), .val (.int (Int32.ofNat i)), .val (.int j)] [(.int (Int32.ofNat (2 * k))), (.ref re), (.ref o)])) rfl (by rw [hml]; rfl) (argsL := [(.ref re), (.int (Int32.ofNat (2 * k)))]) (rest := [(.ref o)]) (lenOf pd_1 rfl) rfl (by show 2 * 0 + _ ≤ _; exact Nat.le_of_eq rfl) (own_hb hby d5_64) (fun _ _ => ⟨rfl, e1597, (by decide : 1 + 1 ≤ _), (by decide : 8 + 8 ≤ _)⟩)
      dsimp only [Pt.U, Pt.locs, Pt.cells, Pt.slots] at X1598 l1598 y1598 z1598 st1598 hQ1598
      subst l1598 y1598 z1598
      obtain ⟨b1598, rfl, N1598q, K1598, p1598_0, p1598_1⟩ := hQ1598
      have N1598 := Fr.app N1579 N1598q
      refine own_Go.of (S' := (T1598.setTop (mkF m 67 #[.val (.ref o), .val (.int (Int32.ofNat i)), .val (.int j)] [(.ref b1598), (.ref o)]))) (fun t kt => st1598 t kt) ?_
      have gx1599 : n0 ≤ b1598 := Nat.le_trans z1594 p1598_0
      have ne1600 : x ≠ b1598 := Nat.ne_of_lt (Nat.lt_of_lt_of_le f1581.lt p1598_0)
      have ne1601 : o ≠ b1598 := Nat.ne_of_lt (Nat.lt_of_lt_of_le f1582.lt p1598_0)
      have ne1602 : rs ≠ b1598 := Nat.ne_of_lt (Nat.lt_of_lt_of_le f1588.lt p1598_0)
      have ne1603 : re ≠ b1598 := Nat.ne_of_lt (Nat.lt_of_lt_of_le f1589.lt p1598_0)
      have ne1604 : rn ≠ b1598 := Nat.ne_of_lt (Nat.lt_of_lt_of_le f1592.lt p1598_0)
      have ne1605 : b1557 ≠ b1598 := Nat.ne_of_lt (Nat.lt_of_lt_of_le f1593.lt p1598_0)
      have kx1606 : own_Kx h0 T1598.heap x := kx1580.keep K1598 nin0
      have f1607 : own_Lt T1598.heap x := f1581.keep K1598
      have f1608 : Exa Z T1598.heap o "com/example/quayside/quayside/Row" := f1582.keep K1598
      have f1609 : Fld Z T1598.heap o "com/example/quayside/quayside/Row" "starts" "[I" (.ref b1557) := f1595.keep K1598 nin0
      have f1610 : Fld Z T1598.heap o "com/example/quayside/quayside/Row" "ends" "[I" (.ref re) := f1583.keep K1598 nin0
      have f1611 : Fld Z T1598.heap o "com/example/quayside/quayside/Row" "size" "I" (.int (Int32.ofNat k)) := f1584.keep K1598 nin0
      have f1612 : Fld Z T1598.heap o "com/example/quayside/quayside/Row" "reach" "I" (.int r) := f1585.keep K1598 nin0
      have f1613 : Fld Z T1598.heap o "com/example/quayside/quayside/Row" "text" "Z" (.int tx) := f1586.keep K1598 nin0
      have f1614 : Fld Z T1598.heap o "com/example/quayside/quayside/Row" "bytes" "[B" (.ref bs) := f1587.keep K1598 nin0
      have f1615 : own_Ar Z T1598.heap rs .int cap (own_I gs) := f1588.keep K1598 nin0
      have f1616 : own_Ar Z T1598.heap re .int cap (own_I ge) := f1589.keep K1598 nin0
      have f1617 : Fld Z T1598.heap o "com/example/quayside/quayside/Row" "nulls" "[Z" (.ref rn) := f1590.keep K1598 nin0
      have f1618 : Fld Z T1598.heap o "com/example/quayside/quayside/Row" "nullCount" "I" (.int (Int32.ofNat c')) := f1591.keep K1598 nin0
      have f1619 : own_Ar Z T1598.heap rn .boolean mn (own_I g) := f1592.keep K1598 nin0
      have f1620 : own_Ar Z T1598.heap b1557 .int (2 * k) (own_I (own_cpy gs cap)) := f1593.keep K1598 nin0
      have z1621 : n0 ≤ T1598.heap.size := Nat.le_trans z1594 K1598.1
      obtain ⟨T1622, h1622, X1622, e1622, W1622, st1622⟩ := putF X1598 hx hZ hown (host := "") (Or.inl (hw _ (List.mem_of_getElem? (i := 16) rfl))) Via.refl rfl f1610 f1608 (Or.inl (hw _ (List.mem_of_getElem? (i := 17) rfl))) (hw _ (List.mem_of_getElem? (i := 2) rfl)) (ty := (.array .int)) (by decide) rfl rfl (g := (mkF m 67 #[.val (.ref o), .val (.int (Int32.ofNat i)), .val (.int j)] [(.ref b1598), (.ref o)])) rfl rfl (own_hb hby d5_67)
      refine own_Go.of (S' := (T1622.setTop (mkF m 70 #[.val (.ref o), .val (.int (Int32.ofNat i)), .val (.int j)] []))) st1622 ?_
      have kx1623 : own_Kx h0 h1622 x := kx1606.wr W1622 hn4
      have f1624 : own_Lt h1622 x := f1607.wr W1622
      have f1625 : Exa Z h1622 o "com/example/quayside/quayside/Row" := f1608.wr W1622
      have f1626 : Fld Z h1622 o "com/example/quayside/quayside/Row" "starts" "[I" (.ref b1557) := f1609.other W1622 (Or.inr (slot_ne (Or.inl (hw _ (List.mem_of_getElem? (i := 15) rfl))) (Or.inl (hw _ (List.mem_of_getElem? (i := 17) rfl))) (by decide) (t := (.array .int)) (t' := (.array .int)) (by decide) (by decide)))
      have f1627 : Fld Z h1622 o "com/example/quayside/quayside/Row" "size" "I" (.int (Int32.ofNat k)) := f1611.other W1622 (Or.inr (slot_ne (Or.inl (hw _ (List.mem_of_getElem? (i := 31) rfl))) (Or.inl (hw _ (List.mem_of_getElem? (i := 17) rfl))) (by decide) (t := .int) (t' := (.array .int)) (by decide) (by decide)))
      have f1628 : Fld Z h1622 o "com/example/quayside/quayside/Row" "reach" "I" (.int r) := f1612.other W1622 (Or.inr (slot_ne (Or.inl (hw _ (List.mem_of_getElem? (i := 33) rfl))) (Or.inl (hw _ (List.mem_of_getElem? (i := 17) rfl))) (by decide) (t := .int) (t' := (.array .int)) (by decide) (by decide)))
      have f1629 : Fld Z h1622 o "com/example/quayside/quayside/Row" "text" "Z" (.int tx) := f1613.other W1622 (Or.inr (slot_ne (Or.inl (hw _ (List.mem_of_getElem? (i := 39) rfl))) (Or.inl (hw _ (List.mem_of_getElem? (i := 17) rfl))) (by decide) (t := .boolean) (t' := (.array .int)) (by decide) (by decide)))
      have f1630 : Fld Z h1622 o "com/example/quayside/quayside/Row" "bytes" "[B" (.ref bs) := f1614.other W1622 (Or.inr (slot_ne (Or.inl (hw _ (List.mem_of_getElem? (i := 12) rfl))) (Or.inl (hw _ (List.mem_of_getElem? (i := 17) rfl))) (by decide) (t := (.array .byte)) (t' := (.array .int)) (by decide) (by decide)))
      have f1631 : own_Ar Z h1622 rs .int cap (own_I gs) := f1615.other W1622 (Ne.symm hn1)
      have f1632 : own_Ar Z h1622 re .int cap (own_I ge) := f1616.other W1622 (Ne.symm hn2)
      have f1633 : Fld Z h1622 o "com/example/quayside/quayside/Row" "nulls" "[Z" (.ref rn) := f1617.other W1622 (Or.inr (slot_ne (Or.inl (hw _ (List.mem_of_getElem? (i := 65) rfl))) (Or.inl (hw _ (List.mem_of_getElem? (i := 17) rfl))) (by decide) (t := (.array .boolean)) (t' := (.array .int)) (by decide) (by decide)))
      have f1634 : Fld Z h1622 o "com/example/quayside/quayside/Row" "nullCount" "I" (.int (Int32.ofNat c')) := f1618.other W1622 (Or.inr (slot_ne (Or.inl (hw _ (List.mem_of_getElem? (i := 52) rfl))) (Or.inl (hw _ (List.mem_of_getElem? (i := 17) rfl))) (by decide) (t := .int) (t' := (.array .int)) (by decide) (by decide)))
      have f1635 : own_Ar Z h1622 rn .boolean mn (own_I g) := f1619.other W1622 (Ne.symm hn7)
      have f1636 : own_Ar Z h1622 b1557 .int (2 * k) (own_I (own_cpy gs cap)) := f1620.other W1622 (Ne.symm ne1560)
      have f1637 : own_Ar Z h1622 b1598 .int (2 * k) (own_I (own_cpy ge cap)) := p1598_1.other W1622 (Ne.symm ne1601)
      have z1638 : n0 ≤ h1622.size := Nat.le_trans z1621 (Keep.of_wr W1622).1
      have f1639 : Fld Z h1622 o "com/example/quayside/quayside/Row" "ends" "[I" (.ref b1598) := f1610.same W1622
      have N1622 := Fr.snoc X1622 N1598 hg1
      refine own_Go.of (S' := (T1622.setTop (mkF m 71 #[.val (.ref o), .val (.int (Int32.ofNat i)), .val (.int j)] [(.ref o)]))) (fun t kt => ?_) ?_
      · show Steps p.tables e below (T1622.setTop (mkF m 70 #[.val (.ref o), .val (.int (Int32.ofNat i)), .val (.int j)] [])) _
        refine XS.aloadN X1622.here hx rfl (own_hb hby d5_70) rfl rfl ?_
        exact kt
      obtain ⟨T1640, X1640, e1640, st1640⟩ := getF X1622 hx hZ hown (host := "") (Or.inl (hw _ (List.mem_of_getElem? (i := 14) rfl))) Via.refl e1622 f1626 (g := (mkF m 71 #[.val (.ref o), .val (.int (Int32.ofNat i)), .val (.int j)] [(.ref o)])) rfl rfl (own_hb hby d5_71)
      refine own_Go.of (S' := (T1640.setTop (mkF m 74 #[.val (.ref o), .val (.int (Int32.ofNat i)), .val (.int j)] [(.ref b1557)]))) st1640 ?_
      refine own_Go.of (S' := (T1640.setTop (mkF m 75 #[.val (.ref o), .val (.int (Int32.ofNat i)), .val (.int j)] [(.ref o), (.ref b1557)]))) (fun t kt => ?_) ?_
      · show Steps p.tables e below (T1640.setTop (mkF m 74 #[.val (.ref o), .val (.int (Int32.ofNat i)), .val (.int j)] [(.ref b1557)])) _
        refine XS.aloadN X1640.here hx rfl (own_hb hby d5_74) rfl rfl ?_
        exact kt
      obtain ⟨T1641, X1641, e1641, st1641⟩ := getF X1640 hx hZ hown (host := "") (Or.inl (hw _ (List.mem_of_getElem? (i := 30) rfl))) Via.refl e1640 f1627 (g := (mkF m 75 #[.val (.ref o), .val (.int (Int32.ofNat i)), .val (.int j)] [(.ref o), (.ref b1557)])) rfl rfl (own_hb hby d5_75)
      refine own_Go.of (S' := (T1641.setTop (mkF m 78 #[.val (.ref o), .val (.int (Int32.ofNat i)), .val (.int j)] [(.int (Int32.ofNat k)), (.ref b1557)]))) st1641 ?_
      refine own_Go.of (S' := (T1641.setTop (mkF m 79 #[.val (.ref o), .val (.int (Int32.ofNat i)), .val (.int j)] [(.int (Int32.ofNat i)), (.int (Int32.ofNat k)), (.ref b1557)]))) (fun t kt => ?_) ?_
      · show Steps p.tables e below (T1641.setTop (mkF m 78 #[.val (.ref o), .val (.int (Int32.ofNat i)), .val (.int j)] [(.int (Int32.ofNat k)), (.ref b1557)])) _
        refine XS.iloadN X1641.here hx rfl (own_hb hby d5_78) rfl ?_
        exact kt
      obtain ⟨cl1642, Ar1642, hin1642, ub1642⟩ := own_Ar.put (j := (Int32.ofNat k)) (k := k) f1636 ⟨rfl, by omega⟩
      obtain ⟨T1642, h1642, X1642, e1642, W1642, st1642⟩ := stI X1641 hx hZ e1641 Ar1642 (j := (Int32.ofNat k)) hin1642 (g := (mkF m 79 #[.val (.ref o), .val (.int (Int32.ofNat i)), .val (.int j)] [(.int (Int32.ofNat i)), (.int (Int32.ofNat k)), (.ref b1557)])) rfl rfl (own_hb hby d5_79)
      refine own_Go.of (S' := (T1642.setTop (mkF m 80 #[.val (.ref o), .val (.int (Int32.ofNat i)), .val (.int j)] []))) st1642 ?_
      have kx1643 : own_Kx h0 h1642 x := kx1623.wr W1642 ne1559
      have f1644 : own_Lt h1642 x := f1624.wr W1642
      have f1645 : Exa Z h1642 o "com/example/quayside/quayside/Row" := f1625.wr W1642
      have f1646 : Fld Z h1642 o "com/example/quayside/quayside/Row" "starts" "[I" (.ref b1557) := f1626.other W1642 (Or.inl ne1560)
      have f1647 : Fld Z h1642 o "com/example/quayside/quayside/Row" "ends" "[I" (.ref b1598) := f1639.other W1642 (Or.inl ne1560)
      have f1648 : Fld Z h1642 o "com/example/quayside/quayside/Row" "size" "I" (.int (Int32.ofNat k)) := f1627.other W1642 (Or.inl ne1560)
      have f1649 : Fld Z h1642 o "com/example/quayside/quayside/Row" "reach" "I" (.int r) := f1628.other W1642 (Or.inl ne1560)
      have f1650 : Fld Z h1642 o "com/example/quayside/quayside/Row" "text" "Z" (.int tx) := f1629.other W1642 (Or.inl ne1560)
      have f1651 : Fld Z h1642 o "com/example/quayside/quayside/Row" "bytes" "[B" (.ref bs) := f1630.other W1642 (Or.inl ne1560)
      have f1652 : own_Ar Z h1642 rs .int cap (own_I gs) := f1631.other W1642 ne1561
      have f1653 : own_Ar Z h1642 re .int cap (own_I ge) := f1632.other W1642 ne1562
      have f1654 : Fld Z h1642 o "com/example/quayside/quayside/Row" "nulls" "[Z" (.ref rn) := f1633.other W1642 (Or.inl ne1560)
      have f1655 : Fld Z h1642 o "com/example/quayside/quayside/Row" "nullCount" "I" (.int (Int32.ofNat c')) := f1634.other W1642 (Or.inl ne1560)
      have f1656 : own_Ar Z h1642 rn .boolean mn (own_I g) := f1635.other W1642 ne1563
      have f1657 : own_Ar Z h1642 b1598 .int (2 * k) (own_I (own_cpy ge cap)) := f1637.other W1642 (Ne.symm ne1605)
      have z1658 : n0 ≤ h1642.size := Nat.le_trans z1638 (Keep.of_wr W1642).1
      have f1659 : own_Ar Z h1642 b1557 .int (2 * k) (own_I (own_set (own_cpy gs cap) k (Int32.ofNat i))) := by rw [← own_upI]; exact ub1642 rfl W1642
      have N1642 := Fr.snoc X1642 N1622 gx1558
      refine own_Go.of (S' := (T1642.setTop (mkF m 81 #[.val (.ref o), .val (.int (Int32.ofNat i)), .val (.int j)] [(.ref o)]))) (fun t kt => ?_) ?_
      · show Steps p.tables e below (T1642.setTop (mkF m 80 #[.val (.ref o), .val (.int (Int32.ofNat i)), .val (.int j)] [])) _
        refine XS.aloadN X1642.here hx rfl (own_hb hby d5_80) rfl rfl ?_
        exact kt
      obtain ⟨T1660, X1660, e1660, st1660⟩ := getF X1642 hx hZ hown (host := "") (Or.inl (hw _ (List.mem_of_getElem? (i := 16) rfl))) Via.refl e1642 f1647 (g := (mkF m 81 #[.val (.ref o), .val (.int (Int32.ofNat i)), .val (.int j)] [(.ref o)])) rfl rfl (own_hb hby d5_81)
      refine own_Go.of (S' := (T1660.setTop (mkF m 84 #[.val (.ref o), .val (.int (Int32.ofNat i)), .val (.int j)] [(.ref b1598)]))) st1660 ?_
      refine own_Go.of (S' := (T1660.setTop (mkF m 85 #[.val (.ref o), .val (.int (Int32.ofNat i)), .val (.int j)] [(.ref o), (.ref b1598)]))) (fun t kt => ?_) ?_
      · show Steps p.tables e below (T1660.setTop (mkF m 84 #[.val (.ref o), .val (.int (Int32.ofNat i)), .val (.int j)] [(.ref b1598)])) _
        refine XS.aloadN X1660.here hx rfl (own_hb hby d5_84) rfl rfl ?_
        exact kt
      obtain ⟨T1661, X1661, e1661, st1661⟩ := getF X1660 hx hZ hown (host := "") (Or.inl (hw _ (List.mem_of_getElem? (i := 30) rfl))) Via.refl e1660 f1648 (g := (mkF m 85 #[.val (.ref o), .val (.int (Int32.ofNat i)), .val (.int j)] [(.ref o), (.ref b1598)])) rfl rfl (own_hb hby d5_85)
      refine own_Go.of (S' := (T1661.setTop (mkF m 88 #[.val (.ref o), .val (.int (Int32.ofNat i)), .val (.int j)] [(.int (Int32.ofNat k)), (.ref b1598)]))) st1661 ?_
      refine own_Go.of (S' := (T1661.setTop (mkF m 89 #[.val (.ref o), .val (.int (Int32.ofNat i)), .val (.int j)] [(.int j), (.int (Int32.ofNat k)), (.ref b1598)]))) (fun t kt => ?_) ?_
      · show Steps p.tables e below (T1661.setTop (mkF m 88 #[.val (.ref o), .val (.int (Int32.ofNat i)), .val (.int j)] [(.int (Int32.ofNat k)), (.ref b1598)])) _
        refine XS.iloadN X1661.here hx rfl (own_hb hby d5_88) rfl ?_
        exact kt
      obtain ⟨cl1662, Ar1662, hin1662, ub1662⟩ := own_Ar.put (j := (Int32.ofNat k)) (k := k) f1657 ⟨rfl, by omega⟩
      obtain ⟨T1662, h1662, X1662, e1662, W1662, st1662⟩ := stI X1661 hx hZ e1661 Ar1662 (j := (Int32.ofNat k)) hin1662 (g := (mkF m 89 #[.val (.ref o), .val (.int (Int32.ofNat i)), .val (.int j)] [(.int j), (.int (Int32.ofNat k)), (.ref b1598)])) rfl rfl (own_hb hby d5_89)
      refine own_Go.of (S' := (T1662.setTop (mkF m 90 #[.val (.ref o), .val (.int (Int32.ofNat i)), .val (.int j)] []))) st1662 ?_
      have kx1663 : own_Kx h0 h1662 x := kx1643.wr W1662 ne1600
      have f1664 : own_Lt h1662 x := f1644.wr W1662
      have f1665 : Exa Z h1662 o "com/example/quayside/quayside/Row" := f1645.wr W1662
      have f1666 : Fld Z h1662 o "com/example/quayside/quayside/Row" "starts" "[I" (.ref b1557) := f1646.other W1662 (Or.inl ne1601)
      have f1667 : Fld Z h1662 o "com/example/quayside/quayside/Row" "ends" "[I" (.ref b1598) := f1647.other W1662 (Or.inl ne1601)
      have f1668 : Fld Z h1662 o "com/example/quayside/quayside/Row" "size" "I" (.int (Int32.ofNat k)) := f1648.other W1662 (Or.inl ne1601)
      have f1669 : Fld Z h1662 o "com/example/quayside/quayside/Row" "reach" "I" (.int r) := f1649.other W1662 (Or.inl ne1601)
      have f1670 : Fld Z h1662 o "com/example/quayside/quayside/Row" "text" "Z" (.int tx) := f1650.other W1662 (Or.inl ne1601)
      have f1671 : Fld Z h1662 o "com/example/quayside/quayside/Row" "bytes" "[B" (.ref bs) := f1651.other W1662 (Or.inl ne1601)
      have f1672 : own_Ar Z h1662 rs .int cap (own_I gs) := f1652.other W1662 ne1602
      have f1673 : own_Ar Z h1662 re .int cap (own_I ge) := f1653.other W1662 ne1603
      have f1674 : Fld Z h1662 o "com/example/quayside/quayside/Row" "nulls" "[Z" (.ref rn) := f1654.other W1662 (Or.inl ne1601)
      have f1675 : Fld Z h1662 o "com/example/quayside/quayside/Row" "nullCount" "I" (.int (Int32.ofNat c')) := f1655.other W1662 (Or.inl ne1601)
      have f1676 : own_Ar Z h1662 rn .boolean mn (own_I g) := f1656.other W1662 ne1604
      have f1677 : own_Ar Z h1662 b1557 .int (2 * k) (own_I (own_set (own_cpy gs cap) k (Int32.ofNat i))) := f1659.other W1662 ne1605
      have z1678 : n0 ≤ h1662.size := Nat.le_trans z1658 (Keep.of_wr W1662).1
      have f1679 : own_Ar Z h1662 b1598 .int (2 * k) (own_I (own_set (own_cpy ge cap) k j)) := by rw [← own_upI]; exact ub1662 rfl W1662
      have N1662 := Fr.snoc X1662 N1642 gx1599
      refine own_Go.of (S' := (T1662.setTop (mkF m 92 #[.val (.ref o), .val (.int (Int32.ofNat i)), .val (.int j)] [(.ref o), (.ref o)]))) (fun t kt => ?_) ?_
      · show Steps p.tables e below (T1662.setTop (mkF m 90 #[.val (.ref o), .val (.int (Int32.ofNat i)), .val (.int j)] [])) _
        refine XS.aloadN X1662.here hx rfl (own_hb hby d5_90) rfl rfl ?_
        show Steps p.tables e below (T1662.setTop (mkF m 91 #[.val (.ref o), .val (.int (Int32.ofNat i)), .val (.int j)] [(.ref o)])) _
        refine XS.dup X1662.here hx rfl (own_hb hby d5_91) rfl rfl ?_
        exact kt
      obtain ⟨T1680, X1680, e1680, st1680⟩ := getF X1662 hx hZ hown (host := "") (Or.inl (hw _ (List.mem_of_getElem? (i := 30) rfl))) Via.refl e1662 f1668 (g := (mkF m 92 #[.val (.ref o), .val (.int (Int32.ofNat i)), .val (.int j)] [(.ref o), (.ref o)])) rfl rfl (own_hb hby d5_92)
      refine own_Go.of (S' := (T1680.setTop (mkF m 95 #[.val (.ref o), .val (.int (Int32.ofNat i)), .val (.int j)] [(.int (Int32.ofNat k)), (.ref o)]))) st1680 ?_
      refine own_Go.of (S' := (T1680.setTop (mkF m 97 #[.val (.ref o), .val (.int (Int32.ofNat i)), .val (.int j)] [(.int (Int32.ofNat (k + 1))), (.ref o)]))) (fun t kt => ?_) ?_
      · show Steps p.tables e below (T1680.setTop (mkF m 95 #[.val (.ref o), .val (.int (Int32.ofNat i)), .val (.int j)] [(.int (Int32.ofNat k)), (.ref o)])) _
        refine XS.iconst X1680.here hx rfl (own_hb hby d5_95) ?_
        show Steps p.tables e below (T1680.setTop (mkF m 96 #[.val (.ref o), .val (.int (Int32.ofNat i)), .val (.int j)] [(.int (1 : Int32)), (.int (Int32.ofNat k)), (.ref o)])) _
        refine XS.iadd X1680.here hx rfl (own_hb hby d5_96) rfl ?_
        show Steps p.tables e below (T1680.setTop (mkF m 97 #[.val (.ref o), .val (.int (Int32.ofNat i)), .val (.int j)] [(.int ((Int32.ofNat k) + (1 : Int32))), (.ref o)])) _
        rw [show Int32.ofNat k + (1 : Int32) = Int32.ofNat (k + 1) from own_addN k 1]
        exact kt
      obtain ⟨T1681, h1681, X1681, e1681, W1681, st1681⟩ := putF X1680 hx hZ hown (host := "") (Or.inl (hw _ (List.mem_of_getElem? (i := 30) rfl))) Via.refl e1680 f1668 f1665 (Or.inl (hw _ (List.mem_of_getElem? (i := 31) rfl))) (hw _ (List.mem_of_getElem? (i := 2) rfl)) (ty := .int) (by decide) rfl rfl (g := (mkF m 97 #[.val (.ref o), .val (.int (Int32.ofNat i)), .val (.int j)] [(.int (Int32.ofNat (k + 1))), (.ref o)])) rfl rfl (own_hb hby d5_97)
      refine own_Go.of (S' := (T1681.setTop (mkF m 100 #[.val (.ref o), .val (.int (Int32.ofNat i)), .val (.int j)] []))) st1681 ?_
      have kx1682 : own_Kx h0 h1681 x := kx1663.wr W1681 hn4
      have f1683 : own_Lt h1681 x := f1664.wr W1681
      have f1684 : Exa Z h1681 o "com/example/quayside/quayside/Row" := f1665.wr W1681
      have f1685 : Fld Z h1681 o "com/example/quayside/quayside/Row" "starts" "[I" (.ref b1557) := f1666.other W1681 (Or.inr (slot_ne (Or.inl (hw _ (List.mem_of_getElem? (i := 15) rfl))) (Or.inl (hw _ (List.mem_of_getElem? (i := 31) rfl))) (by decide) (t := (.array .int)) (t' := .int) (by decide) (by decide)))
      have f1686 : Fld Z h1681 o "com/example/quayside/quayside/Row" "ends" "[I" (.ref b1598) := f1667.other W1681 (Or.inr (slot_ne (Or.inl (hw _ (List.mem_of_getElem? (i := 17) rfl))) (Or.inl (hw _ (List.mem_of_getElem? (i := 31) rfl))) (by decide) (t := (.array .int)) (t' := .int) (by decide) (by decide)))
      have f1687 : Fld Z h1681 o "com/example/quayside/quayside/Row" "reach" "I" (.int r) := f1669.other W1681 (Or.inr (slot_ne (Or.inl (hw _ (List.mem_of_getElem? (i := 33) rfl))) (Or.inl (hw _ (List.mem_of_getElem? (i := 31) rfl))) (by decide) (t := .int) (t' := .int) (by decide) (by decide)))
      have f1688 : Fld Z h1681 o "com/example/quayside/quayside/Row" "text" "Z" (.int tx) := f1670.other W1681 (Or.inr (slot_ne (Or.inl (hw _ (List.mem_of_getElem? (i := 39) rfl))) (Or.inl (hw _ (List.mem_of_getElem? (i := 31) rfl))) (by decide) (t := .boolean) (t' := .int) (by decide) (by decide)))
      have f1689 : Fld Z h1681 o "com/example/quayside/quayside/Row" "bytes" "[B" (.ref bs) := f1671.other W1681 (Or.inr (slot_ne (Or.inl (hw _ (List.mem_of_getElem? (i := 12) rfl))) (Or.inl (hw _ (List.mem_of_getElem? (i := 31) rfl))) (by decide) (t := (.array .byte)) (t' := .int) (by decide) (by decide)))
      have f1690 : own_Ar Z h1681 rs .int cap (own_I gs) := f1672.other W1681 (Ne.symm hn1)
      have f1691 : own_Ar Z h1681 re .int cap (own_I ge) := f1673.other W1681 (Ne.symm hn2)
      have f1692 : Fld Z h1681 o "com/example/quayside/quayside/Row" "nulls" "[Z" (.ref rn) := f1674.other W1681 (Or.inr (slot_ne (Or.inl (hw _ (List.mem_of_getElem? (i := 65) rfl))) (Or.inl (hw _ (List.mem_of_getElem? (i := 31) rfl))) (by decide) (t := (.array .boolean)) (t' := .int) (by decide) (by decide)))
      have f1693 : Fld Z h1681 o "com/example/quayside/quayside/Row" "nullCount" "I" (.int (Int32.ofNat c')) := f1675.other W1681 (Or.inr (slot_ne (Or.inl (hw _ (List.mem_of_getElem? (i := 52) rfl))) (Or.inl (hw _ (List.mem_of_getElem? (i := 31) rfl))) (by decide) (t := .int) (t' := .int) (by decide) (by decide)))
      have f1694 : own_Ar Z h1681 rn .boolean mn (own_I g) := f1676.other W1681 (Ne.symm hn7)
      have f1695 : own_Ar Z h1681 b1557 .int (2 * k) (own_I (own_set (own_cpy gs cap) k (Int32.ofNat i))) := f1677.other W1681 (Ne.symm ne1560)
      have f1696 : own_Ar Z h1681 b1598 .int (2 * k) (own_I (own_set (own_cpy ge cap) k j)) := f1679.other W1681 (Ne.symm ne1601)
      have z1697 : n0 ≤ h1681.size := Nat.le_trans z1678 (Keep.of_wr W1681).1
      have f1698 : Fld Z h1681 o "com/example/quayside/quayside/Row" "size" "I" (.int (Int32.ofNat (k + 1))) := f1668.same W1681
      have N1681 := Fr.snoc X1681 N1662 hg1
      refine own_Go.of (S' := (T1681.setTop (mkF m 102 #[.val (.ref o), .val (.int (Int32.ofNat i)), .val (.int j)] [(.ref o), (.ref o)]))) (fun t kt => ?_) ?_
      · show Steps p.tables e below (T1681.setTop (mkF m 100 #[.val (.ref o), .val (.int (Int32.ofNat i)), .val (.int j)] [])) _
        refine XS.aloadN X1681.here hx rfl (own_hb hby d5_100) rfl rfl ?_
        show Steps p.tables e below (T1681.setTop (mkF m 101 #[.val (.ref o), .val (.int (Int32.ofNat i)), .val (.int j)] [(.ref o)])) _
        refine XS.aloadN X1681.here hx rfl (own_hb hby d5_101) rfl rfl ?_
        exact kt
      obtain ⟨T1699, X1699, e1699, st1699⟩ := getF X1681 hx hZ hown (host := "") (Or.inl (hw _ (List.mem_of_getElem? (i := 32) rfl))) Via.refl e1681 f1687 (g := (mkF m 102 #[.val (.ref o), .val (.int (Int32.ofNat i)), .val (.int j)] [(.ref o), (.ref o)])) rfl rfl (own_hb hby d5_102)
      refine own_Go.of (S' := (T1699.setTop (mkF m 105 #[.val (.ref o), .val (.int (Int32.ofNat i)), .val (.int j)] [(.int r), (.ref o)]))) st1699 ?_
      refine own_Go.of (S' := (T1699.setTop (mkF m 106 #[.val (.ref o), .val (.int (Int32.ofNat i)), .val (.int j)] [(.int j), (.int r), (.ref o)]))) (fun t kt => ?_) ?_
      · show Steps p.tables e below (T1699.setTop (mkF m 105 #[.val (.ref o), .val (.int (Int32.ofNat i)), .val (.int j)] [(.int r), (.ref o)])) _
        refine XS.iloadN X1699.here hx rfl (own_hb hby d5_105) rfl ?_
        exact kt
      obtain ⟨_, _, ⟨T1700, L1700, k1700, n1700⟩, -, X1700, ⟨Lc1700, hQ1700, l1700, y1700, z1700⟩, st1700⟩ := Jvm.LawKit.callS X1699 hx (y := (⟨"java/lang/Math", "max", "(II)I"⟩ : MethodName)) hown (mvT hZ (hw _ (List.mem_of_getElem? (i := 34) rfl))) (mvT hZ (hw _ (List.mem_of_getElem? (i := 35) rfl))) (mvT hZ (hw _ (List.mem_of_getElem? (i := 36) rfl))) (mvT hZ (hw _ (List.mem_of_getElem? (i := 37) rfl))) (by decide) (backOf (W := 1) (rm6 l Z a0 hw [] r j h1681 n0 z1697 ) hZ (hw _ (List.mem_of_getElem? (i := 37) rfl)) (hw _ (List.mem_of_getElem? (i := 36) rfl)) (by decide) (by decide)) (g := (mkF m 106 #[.val (.ref o), .val (.int (Int32.ofNat i)), .val (.int j)] [(.int j), (.int r), (.ref o)])) rfl (by rw [hml]; rfl) (argsL := [(.int r), (.int j)]) (rest := [(.ref o)]) (lenOf pd_0 rfl) rfl (by show 2 * 0 + _ ≤ _; exact Nat.le_of_eq rfl) (own_hb hby d5_106) (fun _ _ => ⟨rfl, e1699, (by decide : 2 + 0 ≤ _), (by decide : 16 + 0 ≤ _)⟩)
      dsimp only [Pt.U, Pt.locs, Pt.cells, Pt.slots] at X1700 l1700 y1700 z1700 st1700 hQ1700
      subst l1700 y1700 z1700
      obtain ⟨rfl, N1700q, hh1700⟩ := hQ1700
      have N1700 := Fr.app N1681 N1700q
      refine own_Go.of (S' := (T1700.setTop (mkF m 109 #[.val (.ref o), .val (.int (Int32.ofNat i)), .val (.int j)] [(.int (own_maxI r j)), (.ref o)]))) (fun t kt => st1700 t kt) ?_
      obtain ⟨T1701, h1701, X1701, e1701, W1701, st1701⟩ := putF X1700 hx hZ hown (host := "") (Or.inl (hw _ (List.mem_of_getElem? (i := 32) rfl))) Via.refl hh1700 f1687 f1684 (Or.inl (hw _ (List.mem_of_getElem? (i := 33) rfl))) (hw _ (List.mem_of_getElem? (i := 2) rfl)) (ty := .int) (by decide) rfl rfl (g := (mkF m 109 #[.val (.ref o), .val (.int (Int32.ofNat i)), .val (.int j)] [(.int (own_maxI r j)), (.ref o)])) rfl rfl (own_hb hby d5_109)
      refine own_Go.of (S' := (T1701.setTop (mkF m 112 #[.val (.ref o), .val (.int (Int32.ofNat i)), .val (.int j)] []))) st1701 ?_
      have kx1702 : own_Kx h0 h1701 x := kx1682.wr W1701 hn4
      have f1703 : own_Lt h1701 x := f1683.wr W1701
      have f1704 : Exa Z h1701 o "com/example/quayside/quayside/Row" := f1684.wr W1701
      have f1705 : Fld Z h1701 o "com/example/quayside/quayside/Row" "starts" "[I" (.ref b1557) := f1685.other W1701 (Or.inr (slot_ne (Or.inl (hw _ (List.mem_of_getElem? (i := 15) rfl))) (Or.inl (hw _ (List.mem_of_getElem? (i := 33) rfl))) (by decide) (t := (.array .int)) (t' := .int) (by decide) (by decide)))
      have f1706 : Fld Z h1701 o "com/example/quayside/quayside/Row" "ends" "[I" (.ref b1598) := f1686.other W1701 (Or.inr (slot_ne (Or.inl (hw _ (List.mem_of_getElem? (i := 17) rfl))) (Or.inl (hw _ (List.mem_of_getElem? (i := 33) rfl))) (by decide) (t := (.array .int)) (t' := .int) (by decide) (by decide)))
      have f1707 : Fld Z h1701 o "com/example/quayside/quayside/Row" "size" "I" (.int (Int32.ofNat (k + 1))) := f1698.other W1701 (Or.inr (slot_ne (Or.inl (hw _ (List.mem_of_getElem? (i := 31) rfl))) (Or.inl (hw _ (List.mem_of_getElem? (i := 33) rfl))) (by decide) (t := .int) (t' := .int) (by decide) (by decide)))
      have f1708 : Fld Z h1701 o "com/example/quayside/quayside/Row" "text" "Z" (.int tx) := f1688.other W1701 (Or.inr (slot_ne (Or.inl (hw _ (List.mem_of_getElem? (i := 39) rfl))) (Or.inl (hw _ (List.mem_of_getElem? (i := 33) rfl))) (by decide) (t := .boolean) (t' := .int) (by decide) (by decide)))
      have f1709 : Fld Z h1701 o "com/example/quayside/quayside/Row" "bytes" "[B" (.ref bs) := f1689.other W1701 (Or.inr (slot_ne (Or.inl (hw _ (List.mem_of_getElem? (i := 12) rfl))) (Or.inl (hw _ (List.mem_of_getElem? (i := 33) rfl))) (by decide) (t := (.array .byte)) (t' := .int) (by decide) (by decide)))
      have f1710 : own_Ar Z h1701 rs .int cap (own_I gs) := f1690.other W1701 (Ne.symm hn1)
      have f1711 : own_Ar Z h1701 re .int cap (own_I ge) := f1691.other W1701 (Ne.symm hn2)
      have f1712 : Fld Z h1701 o "com/example/quayside/quayside/Row" "nulls" "[Z" (.ref rn) := f1692.other W1701 (Or.inr (slot_ne (Or.inl (hw _ (List.mem_of_getElem? (i := 65) rfl))) (Or.inl (hw _ (List.mem_of_getElem? (i := 33) rfl))) (by decide) (t := (.array .boolean)) (t' := .int) (by decide) (by decide)))
      have f1713 : Fld Z h1701 o "com/example/quayside/quayside/Row" "nullCount" "I" (.int (Int32.ofNat c')) := f1693.other W1701 (Or.inr (slot_ne (Or.inl (hw _ (List.mem_of_getElem? (i := 52) rfl))) (Or.inl (hw _ (List.mem_of_getElem? (i := 33) rfl))) (by decide) (t := .int) (t' := .int) (by decide) (by decide)))
      have f1714 : own_Ar Z h1701 rn .boolean mn (own_I g) := f1694.other W1701 (Ne.symm hn7)
      have f1715 : own_Ar Z h1701 b1557 .int (2 * k) (own_I (own_set (own_cpy gs cap) k (Int32.ofNat i))) := f1695.other W1701 (Ne.symm ne1560)
      have f1716 : own_Ar Z h1701 b1598 .int (2 * k) (own_I (own_set (own_cpy ge cap) k j)) := f1696.other W1701 (Ne.symm ne1601)
      have z1717 : n0 ≤ h1701.size := Nat.le_trans z1697 (Keep.of_wr W1701).1
      have f1718 : Fld Z h1701 o "com/example/quayside/quayside/Row" "reach" "I" (.int (own_maxI r j)) := f1687.same W1701
      have N1701 := Fr.snoc X1701 N1700 hg1
      refine own_Go.of (S' := (T1701.setTop (mkF m 114 #[.val (.ref o), .val (.int (Int32.ofNat i)), .val (.int j)] [(.int (0 : Int32)), (.ref o)]))) (fun t kt => ?_) ?_
      · show Steps p.tables e below (T1701.setTop (mkF m 112 #[.val (.ref o), .val (.int (Int32.ofNat i)), .val (.int j)] [])) _
        refine XS.aloadN X1701.here hx rfl (own_hb hby d5_112) rfl rfl ?_
        show Steps p.tables e below (T1701.setTop (mkF m 113 #[.val (.ref o), .val (.int (Int32.ofNat i)), .val (.int j)] [(.ref o)])) _
        refine XS.iconst X1701.here hx rfl (own_hb hby d5_113) ?_
        exact kt
      obtain ⟨T1719, h1719, X1719, e1719, W1719, st1719⟩ := putFN X1701 hx hZ hown (hw _ (List.mem_of_getElem? (i := 38) rfl)) Via.refl e1701 f1708 f1704 (Or.inl (hw _ (List.mem_of_getElem? (i := 39) rfl))) (hw _ (List.mem_of_getElem? (i := 2) rfl)) (ty := .boolean) (v' := (.int (nar .boolean (0 : Int32)))) (by decide) rfl (fits_nar_bool _) (g := (mkF m 114 #[.val (.ref o), .val (.int (Int32.ofNat i)), .val (.int j)] [(.int (0 : Int32)), (.ref o)])) rfl rfl (own_hb hby d5_114)
      refine own_Go.of (S' := (T1719.setTop (mkF m 117 #[.val (.ref o), .val (.int (Int32.ofNat i)), .val (.int j)] []))) st1719 ?_
      have kx1720 : own_Kx h0 h1719 x := kx1702.wr W1719 hn4
      have f1721 : own_Lt h1719 x := f1703.wr W1719
      have f1722 : Exa Z h1719 o "com/example/quayside/quayside/Row" := f1704.wr W1719
      have f1723 : Fld Z h1719 o "com/example/quayside/quayside/Row" "starts" "[I" (.ref b1557) := f1705.other W1719 (Or.inr (slot_ne (Or.inl (hw _ (List.mem_of_getElem? (i := 15) rfl))) (Or.inl (hw _ (List.mem_of_getElem? (i := 39) rfl))) (by decide) (t := (.array .int)) (t' := .boolean) (by decide) (by decide)))
      have f1724 : Fld Z h1719 o "com/example/quayside/quayside/Row" "ends" "[I" (.ref b1598) := f1706.other W1719 (Or.inr (slot_ne (Or.inl (hw _ (List.mem_of_getElem? (i := 17) rfl))) (Or.inl (hw _ (List.mem_of_getElem? (i := 39) rfl))) (by decide) (t := (.array .int)) (t' := .boolean) (by decide) (by decide)))
      have f1725 : Fld Z h1719 o "com/example/quayside/quayside/Row" "size" "I" (.int (Int32.ofNat (k + 1))) := f1707.other W1719 (Or.inr (slot_ne (Or.inl (hw _ (List.mem_of_getElem? (i := 31) rfl))) (Or.inl (hw _ (List.mem_of_getElem? (i := 39) rfl))) (by decide) (t := .int) (t' := .boolean) (by decide) (by decide)))
      have f1726 : Fld Z h1719 o "com/example/quayside/quayside/Row" "reach" "I" (.int (own_maxI r j)) := f1718.other W1719 (Or.inr (slot_ne (Or.inl (hw _ (List.mem_of_getElem? (i := 33) rfl))) (Or.inl (hw _ (List.mem_of_getElem? (i := 39) rfl))) (by decide) (t := .int) (t' := .boolean) (by decide) (by decide)))
      have f1727 : Fld Z h1719 o "com/example/quayside/quayside/Row" "bytes" "[B" (.ref bs) := f1709.other W1719 (Or.inr (slot_ne (Or.inl (hw _ (List.mem_of_getElem? (i := 12) rfl))) (Or.inl (hw _ (List.mem_of_getElem? (i := 39) rfl))) (by decide) (t := (.array .byte)) (t' := .boolean) (by decide) (by decide)))
      have f1728 : own_Ar Z h1719 rs .int cap (own_I gs) := f1710.other W1719 (Ne.symm hn1)
      have f1729 : own_Ar Z h1719 re .int cap (own_I ge) := f1711.other W1719 (Ne.symm hn2)
      have f1730 : Fld Z h1719 o "com/example/quayside/quayside/Row" "nulls" "[Z" (.ref rn) := f1712.other W1719 (Or.inr (slot_ne (Or.inl (hw _ (List.mem_of_getElem? (i := 65) rfl))) (Or.inl (hw _ (List.mem_of_getElem? (i := 39) rfl))) (by decide) (t := (.array .boolean)) (t' := .boolean) (by decide) (by decide)))
      have f1731 : Fld Z h1719 o "com/example/quayside/quayside/Row" "nullCount" "I" (.int (Int32.ofNat c')) := f1713.other W1719 (Or.inr (slot_ne (Or.inl (hw _ (List.mem_of_getElem? (i := 52) rfl))) (Or.inl (hw _ (List.mem_of_getElem? (i := 39) rfl))) (by decide) (t := .int) (t' := .boolean) (by decide) (by decide)))
      have f1732 : own_Ar Z h1719 rn .boolean mn (own_I g) := f1714.other W1719 (Ne.symm hn7)
      have f1733 : own_Ar Z h1719 b1557 .int (2 * k) (own_I (own_set (own_cpy gs cap) k (Int32.ofNat i))) := f1715.other W1719 (Ne.symm ne1560)
      have f1734 : own_Ar Z h1719 b1598 .int (2 * k) (own_I (own_set (own_cpy ge cap) k j)) := f1716.other W1719 (Ne.symm ne1601)
      have z1735 : n0 ≤ h1719.size := Nat.le_trans z1717 (Keep.of_wr W1719).1
      have f1736 : Fld Z h1719 o "com/example/quayside/quayside/Row" "text" "Z" (.int (nar .boolean (0 : Int32))) := f1708.same W1719
      have N1719 := Fr.snoc X1719 N1701 hg1
      have f1737 : Fld Z h1719 o "com/example/quayside/quayside/Row" "text" "Z" (.int (0 : Int32)) := f1736
      exact own_retV X1719 hx hlk hret (own_hb hby d5_117) e1719 ⟨(2 * k), rfl, N1719, kx1720, ⟨b1557, b1598, bs, (own_set (own_cpy gs cap) k (Int32.ofNat i)), (own_set (own_cpy ge cap) k j), (0 : Int32), (own_maxI r j), f1722, f1723, f1724, f1725, f1726, f1737, f1727, f1733, f1734, hg1, gx1558, gx1599, ne1560, ne1601, ne1605, hn4, ne1559, ne1600, (by omega), (by omega), own_s01 hf01 (Or.inl rfl), Or.inr ⟨rn, mn, c', g, f1730, f1731, f1732, hg4, hn7, (Ne.symm ne1563), (Ne.symm ne1604), hn10, (by omega), (by omega), (by omega), own_nD hq1, own_nE hq2, hq3⟩⟩⟩ (by decide) (by decide)
theorem d1_0 : decode prog_62_method_1_code 0 = .ok (.aload_n 0, 1) := by decide +kernel
theorem d1_1 : decode prog_62_method_1_code 1 = .ok (.invokespecial 1, 3) := by decide +kernel
theorem d1_4 : decode prog_62_method_1_code 4 = .ok (.aload_n 0, 1) := by decide +kernel
theorem d1_5 : decode prog_62_method_1_code 5 = .ok (.iconst 0, 1) := by decide +kernel
theorem d1_6 : decode prog_62_method_1_code 6 = .ok (.newarray .byte, 2) := by decide +kernel
theorem d1_8 : decode prog_62_method_1_code 8 = .ok (.putfield 7, 3) := by decide +kernel
theorem d1_11 : decode prog_62_method_1_code 11 = .ok (.aload_n 0, 1) := by decide +kernel
theorem d1_12 : decode prog_62_method_1_code 12 = .ok (.iconst 4, 1) := by decide +kernel
theorem d1_13 : decode prog_62_method_1_code 13 = .ok (.newarray .int, 2) := by decide +kernel
theorem d1_15 : decode prog_62_method_1_code 15 = .ok (.putfield 13, 3) := by decide +kernel
theorem d1_18 : decode prog_62_method_1_code 18 = .ok (.aload_n 0, 1) := by decide +kernel
theorem d1_19 : decode prog_62_method_1_code 19 = .ok (.iconst 4, 1) := by decide +kernel
theorem d1_20 : decode prog_62_method_1_code 20 = .ok (.newarray .int, 2) := by decide +kernel
theorem d1_22 : decode prog_62_method_1_code 22 = .ok (.putfield 17, 3) := by decide +kernel
theorem d1_25 : decode prog_62_method_1_code 25 = .ok (.return_, 1) := by decide +kernel
theorem pn_1 : plainName "com/example/quayside/quayside/Row" = true := by first | (simp [plainName, overriddenIn]; done) | decide +kernel
def Q_rm1 (Z : State) (x : Addr) (o : Addr) (f : Nat → Int32) (u0 : Value) (u1 : Value) (u2 : Value) (h0 : Heap) (n0 : Nat) (v : Option Value) (h : Heap) (L : List Loc) : Prop := v = none ∧ Fr n0 L ∧ own_Kx h0 h x ∧ (own_Row Z h n0 x o 0 4 f)
set_option maxRecDepth 65536 in
set_option maxHeartbeats 40000000 in
theorem rm1 (l : Launch) (Z : State) (a0 : Array Value) (hw : ∀ d ∈ tables_1, d.before a0 Z = true) (ws : List Jvm.Cond) (x : Addr) (o : Addr) (f : Nat → Int32) (u0 : Value) (u1 : Value) (u2 : Value) (h0 : Heap) (n0 : Nat) (Z0 : n0 ≤ h0.size) (pr0 : Exa Z h0 o "com/example/quayside/quayside/Row") (pr1 : Fld Z h0 o "com/example/quayside/quayside/Row" "bytes" "[B" u0) (pr2 : Fld Z h0 o "com/example/quayside/quayside/Row" "starts" "[I" u1) (pr3 : Fld Z h0 o "com/example/quayside/quayside/Row" "ends" "[I" u2) (pr4 : Fld Z h0 o "com/example/quayside/quayside/Row" "size" "I" (.int (0 : Int32))) (pr5 : Fld Z h0 o "com/example/quayside/quayside/Row" "reach" "I" (.int (0 : Int32))) (pr6 : Fld Z h0 o "com/example/quayside/quayside/Row" "text" "Z" (.int (0 : Int32))) (pr7 : Fld Z h0 o "com/example/quayside/quayside/Row" "nulls" "[Z" .null) (pr8 : Fld Z h0 o "com/example/quayside/quayside/Row" "nullCount" "I" (.int (0 : Int32))) (pr9 : n0 ≤ o) (pr10 : own_Lt h0 x) (pr11 : x ≠ o) :
    own_Met l Z h0 (⟨"com/example/quayside/quayside/Row", "<init>", "()V"⟩ : MethodName) prog_62_method_1_code 1 none ws ({ frames := 1, cells := 3, slots := 8, locals := 12 } : Room) #[(.ref o)] (Q_rm1 Z x o f u0 u1 u2 h0 n0) := by
  refine own_enter (plainFor_of_name pn_1) ?_
  intro p e s m below meth c T0 X0 hx hby hml hret hlk hown hnm hZ e0
  have N0 := Fr.nil n0
  have kx0 : own_Kx h0 h0 x := own_Kx.refl
  rw [show entryFrame m #[(.ref o)] 1 = (mkF m 0 #[.val (.ref o)] []) from by first | (simp [entryFrame, mkF, argsToLocals, Value.category]; done) | rfl]
  refine own_Go.of (S' := (T0.setTop (mkF m 1 #[.val (.ref o)] [(.ref o)]))) (fun t kt => ?_) ?_
  · show Steps p.tables e below (T0.setTop (mkF m 0 #[.val (.ref o)] [])) _
    refine XS.aloadN X0.here hx rfl (own_hb hby d1_0) rfl rfl ?_
    exact kt
  obtain ⟨T1738, X1738, e1738, st1738⟩ := initO X0 hx hZ hown (hw _ (List.mem_of_getElem? (i := 7) rfl)) (hw _ (List.mem_of_getElem? (i := 8) rfl)) (hw _ (List.mem_of_getElem? (i := 9) rfl)) e0 (g := (mkF m 1 #[.val (.ref o)] [(.ref o)])) rfl (by rw [hml]; rfl) rfl (own_hb hby d1_1) (by decide) (W := 0) (by show 2 * 0 + _ ≤ _; exact Nat.le_of_eq rfl) (by decide)
  refine own_Go.of (S' := (T1738.setTop (mkF m 4 #[.val (.ref o)] []))) st1738 ?_
  refine own_Go.of (S' := (T1738.setTop (mkF m 6 #[.val (.ref o)] [(.int (0 : Int32)), (.ref o)]))) (fun t kt => ?_) ?_
  · show Steps p.tables e below (T1738.setTop (mkF m 4 #[.val (.ref o)] [])) _
    refine XS.aloadN X1738.here hx rfl (own_hb hby d1_4) rfl rfl ?_
    show Steps p.tables e below (T1738.setTop (mkF m 5 #[.val (.ref o)] [(.ref o)])) _
    refine XS.iconst X1738.here hx rfl (own_hb hby d1_5) ?_
    exact kt
  obtain ⟨T1739, h1739, X1739, e1739, E1739, A1739, st1739⟩ := own_newP X1738 hx hZ (hw _ (List.mem_of_getElem? (i := 10) rfl)) e1738 (g := (mkF m 6 #[.val (.ref o)] [(.int (0 : Int32)), (.ref o)])) rfl (own_hb hby d1_6) rfl (n := 0) (cap := 0) rfl (by decide) (by decide) (by decide) (by decide)
  obtain ⟨b1739, g1739⟩ : ∃ z, z = h0.size := ⟨_, rfl⟩
  rw [← g1739] at A1739 st1739
  have gx1739 : n0 ≤ b1739 := Nat.le_trans Z0 (Nat.le_of_eq g1739.symm)
  have ne1740 : o ≠ b1739 := Nat.ne_of_lt (Nat.lt_of_lt_of_le pr0.lt (Nat.le_of_eq g1739.symm))
  have ne1741 : x ≠ b1739 := Nat.ne_of_lt (Nat.lt_of_lt_of_le pr10.lt (Nat.le_of_eq g1739.symm))
  refine own_Go.of (S' := (T1739.setTop (mkF m 8 #[.val (.ref o)] [(.ref b1739), (.ref o)]))) st1739 ?_
  have kx1742 : own_Kx h0 h1739 x := kx0.ext E1739
  have f1743 : Exa Z h1739 o "com/example/quayside/quayside/Row" := pr0.ext E1739
  have f1744 : Fld Z h1739 o "com/example/quayside/quayside/Row" "bytes" "[B" u0 := pr1.ext E1739
  have f1745 : Fld Z h1739 o "com/example/quayside/quayside/Row" "starts" "[I" u1 := pr2.ext E1739
  have f1746 : Fld Z h1739 o "com/example/quayside/quayside/Row" "ends" "[I" u2 := pr3.ext E1739
  have f1747 : Fld Z h1739 o "com/example/quayside/quayside/Row" "size" "I" (.int (0 : Int32)) := pr4.ext E1739
  have f1748 : Fld Z h1739 o "com/example/quayside/quayside/Row" "reach" "I" (.int (0 : Int32)) := pr5.ext E1739
  have f1749 : Fld Z h1739 o "com/example/quayside/quayside/Row" "text" "Z" (.int (0 : Int32)) := pr6.ext E1739
  have f1750 : Fld Z h1739 o "com/example/quayside/quayside/Row" "nulls" "[Z" .null := pr7.ext E1739
  have f1751 : Fld Z h1739 o "com/example/quayside/quayside/Row" "nullCount" "I" (.int (0 : Int32)) := pr8.ext E1739
  have f1752 : own_Lt h1739 x := pr10.ext E1739
  have z1753 : n0 ≤ h1739.size := Nat.le_trans Z0 E1739.1
  have f1754 : own_Ar Z h1739 b1739 .byte 0 (own_I (fun _ => (0 : Int32))) := A1739
  obtain ⟨T1755, h1755, X1755, e1755, W1755, st1755⟩ := putF X1739 hx hZ hown (host := "") (Or.inl (hw _ (List.mem_of_getElem? (i := 11) rfl))) Via.refl e1739 f1744 f1743 (Or.inl (hw _ (List.mem_of_getElem? (i := 12) rfl))) (hw _ (List.mem_of_getElem? (i := 2) rfl)) (ty := (.array .byte)) (by decide) rfl rfl (g := (mkF m 8 #[.val (.ref o)] [(.ref b1739), (.ref o)])) rfl rfl (own_hb hby d1_8)
  refine own_Go.of (S' := (T1755.setTop (mkF m 11 #[.val (.ref o)] []))) st1755 ?_
  have kx1756 : own_Kx h0 h1755 x := kx1742.wr W1755 pr11
  have f1757 : Exa Z h1755 o "com/example/quayside/quayside/Row" := f1743.wr W1755
  have f1758 : Fld Z h1755 o "com/example/quayside/quayside/Row" "starts" "[I" u1 := f1745.other W1755 (Or.inr (slot_ne (Or.inl (hw _ (List.mem_of_getElem? (i := 15) rfl))) (Or.inl (hw _ (List.mem_of_getElem? (i := 12) rfl))) (by decide) (t := (.array .int)) (t' := (.array .byte)) (by decide) (by decide)))
  have f1759 : Fld Z h1755 o "com/example/quayside/quayside/Row" "ends" "[I" u2 := f1746.other W1755 (Or.inr (slot_ne (Or.inl (hw _ (List.mem_of_getElem? (i := 17) rfl))) (Or.inl (hw _ (List.mem_of_getElem? (i := 12) rfl))) (by decide) (t := (.array .int)) (t' := (.array .byte)) (by decide) (by decide)))
  have f1760 : Fld Z h1755 o "com/example/quayside/quayside/Row" "size" "I" (.int (0 : Int32)) := f1747.other W1755 (Or.inr (slot_ne (Or.inl (hw _ (List.mem_of_getElem? (i := 31) rfl))) (Or.inl (hw _ (List.mem_of_getElem? (i := 12) rfl))) (by decide) (t := .int) (t' := (.array .byte)) (by decide) (by decide)))
  have f1761 : Fld Z h1755 o "com/example/quayside/quayside/Row" "reach" "I" (.int (0 : Int32)) := f1748.other W1755 (Or.inr (slot_ne (Or.inl (hw _ (List.mem_of_getElem? (i := 33) rfl))) (Or.inl (hw _ (List.mem_of_getElem? (i := 12) rfl))) (by decide) (t := .int) (t' := (.array .byte)) (by decide) (by decide)))
  have f1762 : Fld Z h1755 o "com/example/quayside/quayside/Row" "text" "Z" (.int (0 : Int32)) := f1749.other W1755 (Or.inr (slot_ne (Or.inl (hw _ (List.mem_of_getElem? (i := 39) rfl))) (Or.inl (hw _ (List.mem_of_getElem? (i := 12) rfl))) (by decide) (t := .boolean) (t' := (.array .byte)) (by decide) (by decide)))
  have f1763 : Fld Z h1755 o "com/example/quayside/quayside/Row" "nulls" "[Z" .null := f1750.other W1755 (Or.inr (slot_ne (Or.inl (hw _ (List.mem_of_getElem? (i := 65) rfl))) (Or.inl (hw _ (List.mem_of_getElem? (i := 12) rfl))) (by decide) (t := (.array .boolean)) (t' := (.array .byte)) (by decide) (by decide)))
  have f1764 : Fld Z h1755 o "com/example/quayside/quayside/Row" "nullCount" "I" (.int (0 : Int32)) := f1751.other W1755 (Or.inr (slot_ne (Or.inl (hw _ (List.mem_of_getElem? (i := 52) rfl))) (Or.inl (hw _ (List.mem_of_getElem? (i := 12) rfl))) (by decide) (t := .int) (t' := (.array .byte)) (by decide) (by decide)))
  have f1765 : own_Lt h1755 x := f1752.wr W1755
  have f1766 : own_Ar Z h1755 b1739 .byte 0 (own_I (fun _ => (0 : Int32))) := f1754.other W1755 (Ne.symm ne1740)
  have z1767 : n0 ≤ h1755.size := Nat.le_trans z1753 (Keep.of_wr W1755).1
  have f1768 : Fld Z h1755 o "com/example/quayside/quayside/Row" "bytes" "[B" (.ref b1739) := f1744.same W1755
  have N1755 := Fr.snoc X1755 N0 pr9
  refine own_Go.of (S' := (T1755.setTop (mkF m 13 #[.val (.ref o)] [(.int (4 : Int32)), (.ref o)]))) (fun t kt => ?_) ?_
  · show Steps p.tables e below (T1755.setTop (mkF m 11 #[.val (.ref o)] [])) _
    refine XS.aloadN X1755.here hx rfl (own_hb hby d1_11) rfl rfl ?_
    show Steps p.tables e below (T1755.setTop (mkF m 12 #[.val (.ref o)] [(.ref o)])) _
    refine XS.iconst X1755.here hx rfl (own_hb hby d1_12) ?_
    exact kt
  obtain ⟨T1769, h1769, X1769, e1769, E1769, A1769, st1769⟩ := own_newP X1755 hx hZ (hw _ (List.mem_of_getElem? (i := 13) rfl)) e1755 (g := (mkF m 13 #[.val (.ref o)] [(.int (4 : Int32)), (.ref o)])) rfl (own_hb hby d1_13) rfl (n := 4) (cap := 4) rfl (by decide) (by decide) (by decide) (by decide)
  obtain ⟨b1769, g1769⟩ : ∃ z, z = h1755.size := ⟨_, rfl⟩
  rw [← g1769] at A1769 st1769
  have gx1769 : n0 ≤ b1769 := Nat.le_trans z1767 (Nat.le_of_eq g1769.symm)
  have ne1770 : o ≠ b1769 := Nat.ne_of_lt (Nat.lt_of_lt_of_le f1757.lt (Nat.le_of_eq g1769.symm))
  have ne1771 : x ≠ b1769 := Nat.ne_of_lt (Nat.lt_of_lt_of_le f1765.lt (Nat.le_of_eq g1769.symm))
  have ne1772 : b1739 ≠ b1769 := Nat.ne_of_lt (Nat.lt_of_lt_of_le f1766.lt (Nat.le_of_eq g1769.symm))
  refine own_Go.of (S' := (T1769.setTop (mkF m 15 #[.val (.ref o)] [(.ref b1769), (.ref o)]))) st1769 ?_
  have kx1773 : own_Kx h0 h1769 x := kx1756.ext E1769
  have f1774 : Exa Z h1769 o "com/example/quayside/quayside/Row" := f1757.ext E1769
  have f1775 : Fld Z h1769 o "com/example/quayside/quayside/Row" "bytes" "[B" (.ref b1739) := f1768.ext E1769
  have f1776 : Fld Z h1769 o "com/example/quayside/quayside/Row" "starts" "[I" u1 := f1758.ext E1769
  have f1777 : Fld Z h1769 o "com/example/quayside/quayside/Row" "ends" "[I" u2 := f1759.ext E1769
  have f1778 : Fld Z h1769 o "com/example/quayside/quayside/Row" "size" "I" (.int (0 : Int32)) := f1760.ext E1769
  have f1779 : Fld Z h1769 o "com/example/quayside/quayside/Row" "reach" "I" (.int (0 : Int32)) := f1761.ext E1769
  have f1780 : Fld Z h1769 o "com/example/quayside/quayside/Row" "text" "Z" (.int (0 : Int32)) := f1762.ext E1769
  have f1781 : Fld Z h1769 o "com/example/quayside/quayside/Row" "nulls" "[Z" .null := f1763.ext E1769
  have f1782 : Fld Z h1769 o "com/example/quayside/quayside/Row" "nullCount" "I" (.int (0 : Int32)) := f1764.ext E1769
  have f1783 : own_Lt h1769 x := f1765.ext E1769
  have f1784 : own_Ar Z h1769 b1739 .byte 0 (own_I (fun _ => (0 : Int32))) := f1766.ext E1769
  have z1785 : n0 ≤ h1769.size := Nat.le_trans z1767 E1769.1
  have f1786 : own_Ar Z h1769 b1769 .int 4 (own_I (fun _ => (0 : Int32))) := A1769
  obtain ⟨T1787, h1787, X1787, e1787, W1787, st1787⟩ := putF X1769 hx hZ hown (host := "") (Or.inl (hw _ (List.mem_of_getElem? (i := 14) rfl))) Via.refl e1769 f1776 f1774 (Or.inl (hw _ (List.mem_of_getElem? (i := 15) rfl))) (hw _ (List.mem_of_getElem? (i := 2) rfl)) (ty := (.array .int)) (by decide) rfl rfl (g := (mkF m 15 #[.val (.ref o)] [(.ref b1769), (.ref o)])) rfl rfl (own_hb hby d1_15)
  refine own_Go.of (S' := (T1787.setTop (mkF m 18 #[.val (.ref o)] []))) st1787 ?_
  have kx1788 : own_Kx h0 h1787 x := kx1773.wr W1787 pr11
  have f1789 : Exa Z h1787 o "com/example/quayside/quayside/Row" := f1774.wr W1787
  have f1790 : Fld Z h1787 o "com/example/quayside/quayside/Row" "bytes" "[B" (.ref b1739) := f1775.other W1787 (Or.inr (slot_ne (Or.inl (hw _ (List.mem_of_getElem? (i := 12) rfl))) (Or.inl (hw _ (List.mem_of_getElem? (i := 15) rfl))) (by decide) (t := (.array .byte)) (t' := (.array .int)) (by decide) (by decide)))
  have f1791 : Fld Z h1787 o "com/example/quayside/quayside/Row" "ends" "[I" u2 := f1777.other W1787 (Or.inr (slot_ne (Or.inl (hw _ (List.mem_of_getElem? (i := 17) rfl))) (Or.inl (hw _ (List.mem_of_getElem? (i := 15) rfl))) (by decide) (t := (.array .int)) (t' := (.array .int)) (by decide) (by decide)))
  have f1792 : Fld Z h1787 o "com/example/quayside/quayside/Row" "size" "I" (.int (0 : Int32)) := f1778.other W1787 (Or.inr (slot_ne (Or.inl (hw _ (List.mem_of_getElem? (i := 31) rfl))) (Or.inl (hw _ (List.mem_of_getElem? (i := 15) rfl))) (by decide) (t := .int) (t' := (.array .int)) (by decide) (by decide)))
  have f1793 : Fld Z h1787 o "com/example/quayside/quayside/Row" "reach" "I" (.int (0 : Int32)) := f1779.other W1787 (Or.inr (slot_ne (Or.inl (hw _ (List.mem_of_getElem? (i := 33) rfl))) (Or.inl (hw _ (List.mem_of_getElem? (i := 15) rfl))) (by decide) (t := .int) (t' := (.array .int)) (by decide) (by decide)))
  have f1794 : Fld Z h1787 o "com/example/quayside/quayside/Row" "text" "Z" (.int (0 : Int32)) := f1780.other W1787 (Or.inr (slot_ne (Or.inl (hw _ (List.mem_of_getElem? (i := 39) rfl))) (Or.inl (hw _ (List.mem_of_getElem? (i := 15) rfl))) (by decide) (t := .boolean) (t' := (.array .int)) (by decide) (by decide)))
  have f1795 : Fld Z h1787 o "com/example/quayside/quayside/Row" "nulls" "[Z" .null := f1781.other W1787 (Or.inr (slot_ne (Or.inl (hw _ (List.mem_of_getElem? (i := 65) rfl))) (Or.inl (hw _ (List.mem_of_getElem? (i := 15) rfl))) (by decide) (t := (.array .boolean)) (t' := (.array .int)) (by decide) (by decide)))
  have f1796 : Fld Z h1787 o "com/example/quayside/quayside/Row" "nullCount" "I" (.int (0 : Int32)) := f1782.other W1787 (Or.inr (slot_ne (Or.inl (hw _ (List.mem_of_getElem? (i := 52) rfl))) (Or.inl (hw _ (List.mem_of_getElem? (i := 15) rfl))) (by decide) (t := .int) (t' := (.array .int)) (by decide) (by decide)))
  have f1797 : own_Lt h1787 x := f1783.wr W1787
  have f1798 : own_Ar Z h1787 b1739 .byte 0 (own_I (fun _ => (0 : Int32))) := f1784.other W1787 (Ne.symm ne1740)
  have f1799 : own_Ar Z h1787 b1769 .int 4 (own_I (fun _ => (0 : Int32))) := f1786.other W1787 (Ne.symm ne1770)
  have z1800 : n0 ≤ h1787.size := Nat.le_trans z1785 (Keep.of_wr W1787).1
  have f1801 : Fld Z h1787 o "com/example/quayside/quayside/Row" "starts" "[I" (.ref b1769) := f1776.same W1787
  have N1787 := Fr.snoc X1787 N1755 pr9
  refine own_Go.of (S' := (T1787.setTop (mkF m 20 #[.val (.ref o)] [(.int (4 : Int32)), (.ref o)]))) (fun t kt => ?_) ?_
  · show Steps p.tables e below (T1787.setTop (mkF m 18 #[.val (.ref o)] [])) _
    refine XS.aloadN X1787.here hx rfl (own_hb hby d1_18) rfl rfl ?_
    show Steps p.tables e below (T1787.setTop (mkF m 19 #[.val (.ref o)] [(.ref o)])) _
    refine XS.iconst X1787.here hx rfl (own_hb hby d1_19) ?_
    exact kt
  obtain ⟨T1802, h1802, X1802, e1802, E1802, A1802, st1802⟩ := own_newP X1787 hx hZ (hw _ (List.mem_of_getElem? (i := 13) rfl)) e1787 (g := (mkF m 20 #[.val (.ref o)] [(.int (4 : Int32)), (.ref o)])) rfl (own_hb hby d1_20) rfl (n := 4) (cap := 4) rfl (by decide) (by decide) (by decide) (by decide)
  obtain ⟨b1802, g1802⟩ : ∃ z, z = h1787.size := ⟨_, rfl⟩
  rw [← g1802] at A1802 st1802
  have gx1802 : n0 ≤ b1802 := Nat.le_trans z1800 (Nat.le_of_eq g1802.symm)
  have ne1803 : o ≠ b1802 := Nat.ne_of_lt (Nat.lt_of_lt_of_le f1789.lt (Nat.le_of_eq g1802.symm))
  have ne1804 : x ≠ b1802 := Nat.ne_of_lt (Nat.lt_of_lt_of_le f1797.lt (Nat.le_of_eq g1802.symm))
  have ne1805 : b1739 ≠ b1802 := Nat.ne_of_lt (Nat.lt_of_lt_of_le f1798.lt (Nat.le_of_eq g1802.symm))
  have ne1806 : b1769 ≠ b1802 := Nat.ne_of_lt (Nat.lt_of_lt_of_le f1799.lt (Nat.le_of_eq g1802.symm))
  refine own_Go.of (S' := (T1802.setTop (mkF m 22 #[.val (.ref o)] [(.ref b1802), (.ref o)]))) st1802 ?_
  have kx1807 : own_Kx h0 h1802 x := kx1788.ext E1802
  have f1808 : Exa Z h1802 o "com/example/quayside/quayside/Row" := f1789.ext E1802
  have f1809 : Fld Z h1802 o "com/example/quayside/quayside/Row" "bytes" "[B" (.ref b1739) := f1790.ext E1802
  have f1810 : Fld Z h1802 o "com/example/quayside/quayside/Row" "starts" "[I" (.ref b1769) := f1801.ext E1802
  have f1811 : Fld Z h1802 o "com/example/quayside/quayside/Row" "ends" "[I" u2 := f1791.ext E1802
  have f1812 : Fld Z h1802 o "com/example/quayside/quayside/Row" "size" "I" (.int (0 : Int32)) := f1792.ext E1802
  have f1813 : Fld Z h1802 o "com/example/quayside/quayside/Row" "reach" "I" (.int (0 : Int32)) := f1793.ext E1802
  have f1814 : Fld Z h1802 o "com/example/quayside/quayside/Row" "text" "Z" (.int (0 : Int32)) := f1794.ext E1802
  have f1815 : Fld Z h1802 o "com/example/quayside/quayside/Row" "nulls" "[Z" .null := f1795.ext E1802
  have f1816 : Fld Z h1802 o "com/example/quayside/quayside/Row" "nullCount" "I" (.int (0 : Int32)) := f1796.ext E1802
  have f1817 : own_Lt h1802 x := f1797.ext E1802
  have f1818 : own_Ar Z h1802 b1739 .byte 0 (own_I (fun _ => (0 : Int32))) := f1798.ext E1802
  have f1819 : own_Ar Z h1802 b1769 .int 4 (own_I (fun _ => (0 : Int32))) := f1799.ext E1802
  have z1820 : n0 ≤ h1802.size := Nat.le_trans z1800 E1802.1
  have f1821 : own_Ar Z h1802 b1802 .int 4 (own_I (fun _ => (0 : Int32))) := A1802
  obtain ⟨T1822, h1822, X1822, e1822, W1822, st1822⟩ := putF X1802 hx hZ hown (host := "") (Or.inl (hw _ (List.mem_of_getElem? (i := 16) rfl))) Via.refl e1802 f1811 f1808 (Or.inl (hw _ (List.mem_of_getElem? (i := 17) rfl))) (hw _ (List.mem_of_getElem? (i := 2) rfl)) (ty := (.array .int)) (by decide) rfl rfl (g := (mkF m 22 #[.val (.ref o)] [(.ref b1802), (.ref o)])) rfl rfl (own_hb hby d1_22)
  refine own_Go.of (S' := (T1822.setTop (mkF m 25 #[.val (.ref o)] []))) st1822 ?_
  have kx1823 : own_Kx h0 h1822 x := kx1807.wr W1822 pr11
  have f1824 : Exa Z h1822 o "com/example/quayside/quayside/Row" := f1808.wr W1822
  have f1825 : Fld Z h1822 o "com/example/quayside/quayside/Row" "bytes" "[B" (.ref b1739) := f1809.other W1822 (Or.inr (slot_ne (Or.inl (hw _ (List.mem_of_getElem? (i := 12) rfl))) (Or.inl (hw _ (List.mem_of_getElem? (i := 17) rfl))) (by decide) (t := (.array .byte)) (t' := (.array .int)) (by decide) (by decide)))
  have f1826 : Fld Z h1822 o "com/example/quayside/quayside/Row" "starts" "[I" (.ref b1769) := f1810.other W1822 (Or.inr (slot_ne (Or.inl (hw _ (List.mem_of_getElem? (i := 15) rfl))) (Or.inl (hw _ (List.mem_of_getElem? (i := 17) rfl))) (by decide) (t := (.array .int)) (t' := (.array .int)) (by decide) (by decide)))
  have f1827 : Fld Z h1822 o "com/example/quayside/quayside/Row" "size" "I" (.int (0 : Int32)) := f1812.other W1822 (Or.inr (slot_ne (Or.inl (hw _ (List.mem_of_getElem? (i := 31) rfl))) (Or.inl (hw _ (List.mem_of_getElem? (i := 17) rfl))) (by decide) (t := .int) (t' := (.array .int)) (by decide) (by decide)))
  have f1828 : Fld Z h1822 o "com/example/quayside/quayside/Row" "reach" "I" (.int (0 : Int32)) := f1813.other W1822 (Or.inr (slot_ne (Or.inl (hw _ (List.mem_of_getElem? (i := 33) rfl))) (Or.inl (hw _ (List.mem_of_getElem? (i := 17) rfl))) (by decide) (t := .int) (t' := (.array .int)) (by decide) (by decide)))
  have f1829 : Fld Z h1822 o "com/example/quayside/quayside/Row" "text" "Z" (.int (0 : Int32)) := f1814.other W1822 (Or.inr (slot_ne (Or.inl (hw _ (List.mem_of_getElem? (i := 39) rfl))) (Or.inl (hw _ (List.mem_of_getElem? (i := 17) rfl))) (by decide) (t := .boolean) (t' := (.array .int)) (by decide) (by decide)))
  have f1830 : Fld Z h1822 o "com/example/quayside/quayside/Row" "nulls" "[Z" .null := f1815.other W1822 (Or.inr (slot_ne (Or.inl (hw _ (List.mem_of_getElem? (i := 65) rfl))) (Or.inl (hw _ (List.mem_of_getElem? (i := 17) rfl))) (by decide) (t := (.array .boolean)) (t' := (.array .int)) (by decide) (by decide)))
  have f1831 : Fld Z h1822 o "com/example/quayside/quayside/Row" "nullCount" "I" (.int (0 : Int32)) := f1816.other W1822 (Or.inr (slot_ne (Or.inl (hw _ (List.mem_of_getElem? (i := 52) rfl))) (Or.inl (hw _ (List.mem_of_getElem? (i := 17) rfl))) (by decide) (t := .int) (t' := (.array .int)) (by decide) (by decide)))
  have f1832 : own_Lt h1822 x := f1817.wr W1822
  have f1833 : own_Ar Z h1822 b1739 .byte 0 (own_I (fun _ => (0 : Int32))) := f1818.other W1822 (Ne.symm ne1740)
  have f1834 : own_Ar Z h1822 b1769 .int 4 (own_I (fun _ => (0 : Int32))) := f1819.other W1822 (Ne.symm ne1770)
  have f1835 : own_Ar Z h1822 b1802 .int 4 (own_I (fun _ => (0 : Int32))) := f1821.other W1822 (Ne.symm ne1803)
  have z1836 : n0 ≤ h1822.size := Nat.le_trans z1820 (Keep.of_wr W1822).1
  have f1837 : Fld Z h1822 o "com/example/quayside/quayside/Row" "ends" "[I" (.ref b1802) := f1811.same W1822
  have N1822 := Fr.snoc X1822 N1787 pr9
  have f1838 : Fld Z h1822 o "com/example/quayside/quayside/Row" "size" "I" (.int (Int32.ofNat 0)) := f1827
  exact own_retV X1822 hx hlk hret (own_hb hby d1_25) e1822 ⟨rfl, N1822, kx1823, ⟨b1769, b1802, b1739, (fun _ => (0 : Int32)), (fun _ => (0 : Int32)), (0 : Int32), (0 : Int32), f1824, f1826, f1837, f1838, f1828, f1829, f1825, f1834, f1835, pr9, gx1769, gx1802, ne1770, ne1803, ne1806, pr11, ne1771, ne1804, (by decide), (Or.inl rfl), (fun i hi => absurd hi (Nat.not_lt_zero i)), Or.inl ⟨f1830, f1831, fun i hi => absurd hi (Nat.not_lt_zero i)⟩⟩⟩ (by decide) (by decide)
theorem d7_0 : decode prog_62_method_9_code 0 = .ok (.aload_n 0, 1) := by decide +kernel
theorem d7_1 : decode prog_62_method_9_code 1 = .ok (.getfield 34, 3) := by decide +kernel
theorem d7_4 : decode prog_62_method_9_code 4 = .ok (.ireturn, 1) := by decide +kernel
theorem pn_7 : plainName "com/example/quayside/quayside/Row" = true := by first | (simp [plainName, overriddenIn]; done) | decide +kernel
def Q_rm7 (Z : State) (x : Addr) (o : Addr) (k : Nat) (cap : Nat) (f : Nat → Int32) (h0 : Heap) (n0 : Nat) (v : Option Value) (h : Heap) (L : List Loc) : Prop := v = some (.int (Int32.ofNat k)) ∧ Fr n0 L ∧ h = h0
set_option maxRecDepth 65536 in
set_option maxHeartbeats 40000000 in
theorem rm7 (l : Launch) (Z : State) (a0 : Array Value) (hw : ∀ d ∈ tables_1, d.before a0 Z = true) (ws : List Jvm.Cond) (x : Addr) (o : Addr) (k : Nat) (cap : Nat) (f : Nat → Int32) (h0 : Heap) (n0 : Nat) (Z0 : n0 ≤ h0.size) (row : own_Row Z h0 n0 x o k cap f) :
    own_Met l Z h0 (⟨"com/example/quayside/quayside/Row", "size", "()I"⟩ : MethodName) prog_62_method_9_code 1 (some .int) ws ({ frames := 0, cells := 0, slots := 0, locals := 0 } : Room) #[(.ref o)] (Q_rm7 Z x o k cap f h0 n0) := by
  refine own_enter (plainFor_of_name pn_7) ?_
  intro p e s m below meth c T0 X0 hx hby hml hret hlk hown hnm hZ e0
  have N0 := Fr.nil n0
  rw [show entryFrame m #[(.ref o)] 1 = (mkF m 0 #[.val (.ref o)] []) from by first | (simp [entryFrame, mkF, argsToLocals, Value.category]; done) | rfl]
  obtain ⟨rs, re, bs, gs, ge, tx, r, hE, hF1, hF2, hF3, hF4, hF5, hF6, hA1, hA2, hg1, hg2, hg3, hn1, hn2, hn3, hn4, hn5, hn6, hkc, hcap, hf01, hN⟩ := row
  refine own_Go.of (S' := (T0.setTop (mkF m 1 #[.val (.ref o)] [(.ref o)]))) (fun t kt => ?_) ?_
  · show Steps p.tables e below (T0.setTop (mkF m 0 #[.val (.ref o)] [])) _
    refine XS.aloadN X0.here hx rfl (own_hb hby d7_0) rfl rfl ?_
    exact kt
  obtain ⟨T1839, X1839, e1839, st1839⟩ := getF X0 hx hZ hown (host := "") (Or.inl (hw _ (List.mem_of_getElem? (i := 30) rfl))) Via.refl e0 hF3 (g := (mkF m 1 #[.val (.ref o)] [(.ref o)])) rfl rfl (own_hb hby d7_1)
  refine own_Go.of (S' := (T1839.setTop (mkF m 4 #[.val (.ref o)] [(.int (Int32.ofNat k))]))) st1839 ?_
  exact own_retI X1839 hx hlk hret (own_hb hby d7_4) e1839 ⟨rfl, N0, rfl⟩ (by decide) (by decide)
def Q_rm14 (Z : State) (r : Addr) (n : Nat) (g : Nat → Int32) (h0 : Heap) (n0 : Nat) (v : Option Value) (h : Heap) (L : List Loc) : Prop := v = none ∧ Fr n0 L ∧ Keep h0 h [r] ∧ (own_Ar Z h r .boolean n (own_I (fun _ => (0 : Int32))))

theorem own_fl {g : Nat → Int32} {i : Nat} (j : Nat) : own_set (fun j => if j < i then (0 : Int32) else g j) i (nar .boolean (0 : Int32)) j = if j < i + 1 then (0 : Int32) else g j := by
  unfold own_set
  by_cases q : j = i
  · rw [if_pos q, if_pos (by omega)]; rfl
  · rw [if_neg q]
    show (if j < i then (0 : Int32) else g j) = _
    by_cases t : j < i
    · rw [if_pos t, if_pos (by omega)]
    · rw [if_neg t, if_neg (by omega)]
theorem d14_0 : decode jdk_65_method_111_code 0 = .ok (.iconst 0, 1) := by decide +kernel
theorem d14_1 : decode jdk_65_method_111_code 1 = .ok (.istore_n 2, 1) := by decide +kernel
theorem d14_2 : decode jdk_65_method_111_code 2 = .ok (.aload_n 0, 1) := by decide +kernel
theorem d14_3 : decode jdk_65_method_111_code 3 = .ok (.arraylength, 1) := by decide +kernel
theorem d14_4 : decode jdk_65_method_111_code 4 = .ok (.istore_n 3, 1) := by decide +kernel
theorem d14_5 : decode jdk_65_method_111_code 5 = .ok (.iload_n 2, 1) := by decide +kernel
theorem d14_6 : decode jdk_65_method_111_code 6 = .ok (.iload_n 3, 1) := by decide +kernel
theorem d14_7 : decode jdk_65_method_111_code 7 = .ok (.if_icmp .ge 13, 3) := by decide +kernel
theorem d14_10 : decode jdk_65_method_111_code 10 = .ok (.aload_n 0, 1) := by decide +kernel
theorem d14_11 : decode jdk_65_method_111_code 11 = .ok (.iload_n 2, 1) := by decide +kernel
theorem d14_12 : decode jdk_65_method_111_code 12 = .ok (.iload_n 1, 1) := by decide +kernel
theorem d14_13 : decode jdk_65_method_111_code 13 = .ok (.bastore, 1) := by decide +kernel
theorem d14_14 : decode jdk_65_method_111_code 14 = .ok (.iinc 2 1, 3) := by decide +kernel
theorem d14_17 : decode jdk_65_method_111_code 17 = .ok (.goto (-12), 3) := by decide +kernel
theorem d14_20 : decode jdk_65_method_111_code 20 = .ok (.return_, 1) := by decide +kernel
theorem pn_14 : plainName "java/util/Arrays" = true := by first | (simp [plainName, overriddenIn]; done) | decide +kernel
set_option maxRecDepth 65536 in
set_option maxHeartbeats 40000000 in
theorem rm14_loop {p : Program} {l : Launch} {e : Env} {s : State} {m : MethodId} {below : List Frame} {meth : Method} {c : Code} {Z : State} {a0 : Array Value} (hw : ∀ d ∈ tables_1, d.before a0 Z = true) (hx : p.tables.exec = Jvm.exec) (hZ : Z.Warmed39 s.vm) (hby : c.code = jdk_65_method_111_code) (hml : c.maxLocals = 4) (hret : meth.sig.returnType = none) (hlk : meth.locks = false) (hown : s.vm.findClass "java/util/Arrays" = some m.cls) (hnm : meth.name = "fill") (r : Addr) (n : Nat) (g : Nat → Int32) (h0 : Heap) (n0 : Nat)  (fi0 : n0 ≤ r) (hn : n ≤ 8) :
    ∀ (k : Nat) (i : Nat) {T1 : State} {h1 : Heap} {locs : List Loc}, Stand p l e ({ frames := 0, cells := 0, slots := 0, locals := 0 } : Room) s m #[(.ref r), (.int (0 : Int32))] below meth c T1 locs 0 0 → T1.heap = h1 → Fr n0 locs → n0 ≤ h1.size → (i + k = n) → (own_Ar Z h1 r .boolean n (own_I (fun j => if j < i then (0 : Int32) else g j))) → (Keep h0 h1 [r]) → 
    own_Go p e below (T1.setTop (mkF m 5 #[.val (.ref r), .val (.int (0 : Int32)), .val (.int (Int32.ofNat i)), .val (.int (Int32.ofNat n))] [])) (own_End s (Q_rm14 Z r n g h0 n0) ({ frames := 0, cells := 0, slots := 0, locals := 0 } : Room).cells ({ frames := 0, cells := 0, slots := 0, locals := 0 } : Room).slots) := by
  intro k
  induction k with
  | zero =>
    intro i T1 h1 locs X1 e1 N1 Z1 hik pr1 kp1
    refine own_Go.of (S' := (T1.setTop (mkF m 20 #[.val (.ref r), .val (.int (0 : Int32)), .val (.int (Int32.ofNat i)), .val (.int (Int32.ofNat n))] []))) (fun t kt => ?_) ?_
    · show Steps p.tables e below (T1.setTop (mkF m 5 #[.val (.ref r), .val (.int (0 : Int32)), .val (.int (Int32.ofNat i)), .val (.int (Int32.ofNat n))] [])) _
      refine XS.iloadN X1.here hx rfl (own_hb hby d14_5) rfl ?_
      show Steps p.tables e below (T1.setTop (mkF m 6 #[.val (.ref r), .val (.int (0 : Int32)), .val (.int (Int32.ofNat i)), .val (.int (Int32.ofNat n))] [(.int (Int32.ofNat i))])) _
      refine XS.iloadN X1.here hx rfl (own_hb hby d14_6) rfl ?_
      show Steps p.tables e below (T1.setTop (mkF m 7 #[.val (.ref r), .val (.int (0 : Int32)), .val (.int (Int32.ofNat i)), .val (.int (Int32.ofNat n))] [(.int (Int32.ofNat n)), (.int (Int32.ofNat i))])) _
      refine XS.icmpYes X1.here hx rfl (pc0 := 7) (pc' := 20) rfl (own_hb hby d14_7) rfl (flt (fun q => by have h2 := (own_ltN (by omega) (by omega)).mp q; omega)).2.1 (by decide) (by decide) ?_
      exact kt
    exact own_retV X1 hx hlk hret (own_hb hby d14_20) e1 ⟨rfl, N1, kp1, pr1.eqvI (fun j hj => by rw [if_pos (by omega)])⟩ (by decide) (by decide)
  | succ k ih =>
    intro i T1 h1 locs X1 e1 N1 Z1 hik pr1 kp1
    refine own_Go.of (S' := (T1.setTop (mkF m 13 #[.val (.ref r), .val (.int (0 : Int32)), .val (.int (Int32.ofNat i)), .val (.int (Int32.ofNat n))] [(.int (0 : Int32)), (.int (Int32.ofNat i)), (.ref r)]))) (fun t kt => ?_) ?_
    · show Steps p.tables e below (T1.setTop (mkF m 5 #[.val (.ref r), .val (.int (0 : Int32)), .val (.int (Int32.ofNat i)), .val (.int (Int32.ofNat n))] [])) _
      refine XS.iloadN X1.here hx rfl (own_hb hby d14_5) rfl ?_
      show Steps p.tables e below (T1.setTop (mkF m 6 #[.val (.ref r), .val (.int (0 : Int32)), .val (.int (Int32.ofNat i)), .val (.int (Int32.ofNat n))] [(.int (Int32.ofNat i))])) _
      refine XS.iloadN X1.here hx rfl (own_hb hby d14_6) rfl ?_
      show Steps p.tables e below (T1.setTop (mkF m 7 #[.val (.ref r), .val (.int (0 : Int32)), .val (.int (Int32.ofNat i)), .val (.int (Int32.ofNat n))] [(.int (Int32.ofNat n)), (.int (Int32.ofNat i))])) _
      refine XS.icmpNo X1.here hx rfl (own_hb hby d14_7) rfl (tlt ((own_ltN (by omega) (by omega)).mpr (by omega))).2.1 ?_
      show Steps p.tables e below (T1.setTop (mkF m 10 #[.val (.ref r), .val (.int (0 : Int32)), .val (.int (Int32.ofNat i)), .val (.int (Int32.ofNat n))] [])) _
      refine XS.aloadN X1.here hx rfl (own_hb hby d14_10) rfl rfl ?_
      show Steps p.tables e below (T1.setTop (mkF m 11 #[.val (.ref r), .val (.int (0 : Int32)), .val (.int (Int32.ofNat i)), .val (.int (Int32.ofNat n))] [(.ref r)])) _
      refine XS.iloadN X1.here hx rfl (own_hb hby d14_11) rfl ?_
      show Steps p.tables e below (T1.setTop (mkF m 12 #[.val (.ref r), .val (.int (0 : Int32)), .val (.int (Int32.ofNat i)), .val (.int (Int32.ofNat n))] [(.int (Int32.ofNat i)), (.ref r)])) _
      refine XS.iloadN X1.here hx rfl (own_hb hby d14_12) rfl ?_
      exact kt
    obtain ⟨cl1840, Ar1840, hin1840, ub1840⟩ := own_Ar.put (j := (Int32.ofNat i)) (k := i) pr1 ⟨rfl, by omega⟩
    obtain ⟨T1840, h1840, X1840, e1840, W1840, st1840⟩ := stZ X1 hx hZ e1 Ar1840 (j := (Int32.ofNat i)) hin1840 (g := (mkF m 13 #[.val (.ref r), .val (.int (0 : Int32)), .val (.int (Int32.ofNat i)), .val (.int (Int32.ofNat n))] [(.int (0 : Int32)), (.int (Int32.ofNat i)), (.ref r)])) rfl rfl (own_hb hby d14_13)
    refine own_Go.of (S' := (T1840.setTop (mkF m 14 #[.val (.ref r), .val (.int (0 : Int32)), .val (.int (Int32.ofNat i)), .val (.int (Int32.ofNat n))] []))) st1840 ?_
    have z1841 : n0 ≤ h1840.size := Nat.le_trans Z1 (Keep.of_wr W1840).1
    have kp1842 : Keep h0 h1840 [r] := kp1.wr W1840 (Or.inl (List.mem_of_getElem? (i := 0) rfl))
    have f1843 : own_Ar Z h1840 r .boolean n (own_I (own_set (fun j => if j < i then (0 : Int32) else g j) i (nar .boolean (0 : Int32)))) := by rw [← own_upI]; exact ub1840 (fits_nar_bool _) W1840
    have N1840 := Fr.snoc X1840 N1 fi0
    refine own_Go.of (S' := (T1840.setTop (mkF m 5 #[.val (.ref r), .val (.int (0 : Int32)), .val (.int ((Int32.ofNat i) + (1 : Int32))), .val (.int (Int32.ofNat n))] []))) (fun t kt => ?_) ?_
    · show Steps p.tables e below (T1840.setTop (mkF m 14 #[.val (.ref r), .val (.int (0 : Int32)), .val (.int (Int32.ofNat i)), .val (.int (Int32.ofNat n))] [])) _
      refine XS.iinc X1840.here hx rfl (own_hb hby d14_14) rfl (l' := #[.val (.ref r), .val (.int (0 : Int32)), .val (.int ((Int32.ofNat i) + (1 : Int32))), .val (.int (Int32.ofNat n))]) rfl ?_
      show Steps p.tables e below (T1840.setTop (mkF m 17 #[.val (.ref r), .val (.int (0 : Int32)), .val (.int ((Int32.ofNat i) + (1 : Int32))), .val (.int (Int32.ofNat n))] [])) _
      refine XS.goto X1840.here hx rfl (pc0 := 17) (pc' := 5) rfl (own_hb hby d14_17) (by decide) (by decide) ?_
      exact kt
    refine own_Go.of (S' := (T1840.setTop (mkF m 5 #[.val (.ref r), .val (.int (0 : Int32)), .val (.int (Int32.ofNat (i + 1))), .val (.int (Int32.ofNat n))] []))) (fun t kt => ?_) ?_
    · show Steps p.tables e below (T1840.setTop (mkF m 5 #[.val (.ref r), .val (.int (0 : Int32)), .val (.int ((Int32.ofNat i) + (1 : Int32))), .val (.int (Int32.ofNat n))] [])) _
      rw [show Int32.ofNat i + (1 : Int32) = Int32.ofNat (i + 1) from own_addN i 1]
      exact kt
    exact ih (i + 1) X1840 e1840 N1840 z1841 (by omega) (f1843.eqvI (fun j hj => own_fl j)) kp1842
set_option maxRecDepth 65536 in
set_option maxHeartbeats 40000000 in
theorem rm14 (l : Launch) (Z : State) (a0 : Array Value) (hw : ∀ d ∈ tables_1, d.before a0 Z = true) (ws : List Jvm.Cond) (r : Addr) (n : Nat) (g : Nat → Int32) (h0 : Heap) (n0 : Nat) (Z0 : n0 ≤ h0.size) (pr0 : own_Ar Z h0 r .boolean n (own_I g)) (pr1 : n0 ≤ r) (hn : n ≤ 8) :
    own_Met l Z h0 (⟨"java/util/Arrays", "fill", "([ZZ)V"⟩ : MethodName) jdk_65_method_111_code 4 none ws ({ frames := 0, cells := 0, slots := 0, locals := 0 } : Room) #[(.ref r), (.int (0 : Int32))] (Q_rm14 Z r n g h0 n0) := by
  refine own_enter (plainFor_of_name pn_14) ?_
  intro p e s m below meth c T0 X0 hx hby hml hret hlk hown hnm hZ e0
  have N0 := Fr.nil n0
  have kp0 : Keep h0 h0 [r] := Keep.refl h0 _
  rw [show entryFrame m #[(.ref r), (.int (0 : Int32))] 4 = (mkF m 0 #[.val (.ref r), .val (.int (0 : Int32)), .unset, .unset] []) from by first | (simp [entryFrame, mkF, argsToLocals, Value.category]; done) | rfl]
  refine own_Go.of (S' := (T0.setTop (mkF m 3 #[.val (.ref r), .val (.int (0 : Int32)), .val (.int (0 : Int32)), .unset] [(.ref r)]))) (fun t kt => ?_) ?_
  · show Steps p.tables e below (T0.setTop (mkF m 0 #[.val (.ref r), .val (.int (0 : Int32)), .unset, .unset] [])) _
    refine XS.iconst X0.here hx rfl (own_hb hby d14_0) ?_
    show Steps p.tables e below (T0.setTop (mkF m 1 #[.val (.ref r), .val (.int (0 : Int32)), .unset, .unset] [(.int (0 : Int32))])) _
    refine XS.istoreN X0.here hx rfl (own_hb hby d14_1) rfl (l' := #[.val (.ref r), .val (.int (0 : Int32)), .val (.int (0 : Int32)), .unset]) rfl ?_
    show Steps p.tables e below (T0.setTop (mkF m 2 #[.val (.ref r), .val (.int (0 : Int32)), .val (.int (0 : Int32)), .unset] [])) _
    refine XS.aloadN X0.here hx rfl (own_hb hby d14_2) rfl rfl ?_
    exact kt
  obtain ⟨cl1844, Ar1844, hln1844⟩ := own_Ar.len pr0
  refine own_Go.of (S' := (T0.setTop (mkF m 5 #[.val (.ref r), .val (.int (0 : Int32)), .val (.int (0 : Int32)), .val (.int (Int32.ofNat n))] []))) (fun t kt => ?_) ?_
  · show Steps p.tables e below (T0.setTop (mkF m 3 #[.val (.ref r), .val (.int (0 : Int32)), .val (.int (0 : Int32)), .unset] [(.ref r)])) _
    refine X0.arraylength hx (by rw [e0]; exact Ar1844.1) (State.isArrayOf_alike hZ.alike Ar1844.2.1) (g := (mkF m 3 #[.val (.ref r), .val (.int (0 : Int32)), .val (.int (0 : Int32)), .unset] [(.ref r)])) rfl rfl (own_hb hby d14_3) _ ?_
    rw [hln1844]
    show Steps p.tables e below (T0.setTop (mkF m 4 #[.val (.ref r), .val (.int (0 : Int32)), .val (.int (0 : Int32)), .unset] [(.int (Int32.ofNat n))])) _
    refine XS.istoreN X0.here hx rfl (own_hb hby d14_4) rfl (l' := #[.val (.ref r), .val (.int (0 : Int32)), .val (.int (0 : Int32)), .val (.int (Int32.ofNat n))]) rfl ?_
    exact kt
  exact rm14_loop hw hx hZ hby hml hret hlk hown hnm r n g h0 n0  pr1 hn n 0 (own_mono X0 (by decide) (by decide)) e0 N0 Z0 (Nat.zero_add n) (pr0.eqvI (fun j hj => by rw [if_neg (Nat.not_lt_zero j)])) kp0
theorem d9_0 : decode prog_62_method_2_code 0 = .ok (.aload_n 0, 1) := by decide +kernel
theorem d9_1 : decode prog_62_method_2_code 1 = .ok (.getfield 20, 3) := by decide +kernel
theorem d9_4 : decode prog_62_method_2_code 4 = .ok (.ifCond .le 16, 3) := by decide +kernel
theorem d9_7 : decode prog_62_method_2_code 7 = .ok (.aload_n 0, 1) := by decide +kernel
theorem d9_8 : decode prog_62_method_2_code 8 = .ok (.getfield 24, 3) := by decide +kernel
theorem d9_11 : decode prog_62_method_2_code 11 = .ok (.iconst 0, 1) := by decide +kernel
theorem d9_12 : decode prog_62_method_2_code 12 = .ok (.invokestatic 28, 3) := by decide +kernel
theorem d9_15 : decode prog_62_method_2_code 15 = .ok (.aload_n 0, 1) := by decide +kernel
theorem d9_16 : decode prog_62_method_2_code 16 = .ok (.iconst 0, 1) := by decide +kernel
theorem d9_17 : decode prog_62_method_2_code 17 = .ok (.putfield 20, 3) := by decide +kernel
theorem d9_20 : decode prog_62_method_2_code 20 = .ok (.aload_n 0, 1) := by decide +kernel
theorem d9_21 : decode prog_62_method_2_code 21 = .ok (.iconst 0, 1) := by decide +kernel
theorem d9_22 : decode prog_62_method_2_code 22 = .ok (.putfield 34, 3) := by decide +kernel
theorem d9_25 : decode prog_62_method_2_code 25 = .ok (.aload_n 0, 1) := by decide +kernel
theorem d9_26 : decode prog_62_method_2_code 26 = .ok (.iconst 0, 1) := by decide +kernel
theorem d9_27 : decode prog_62_method_2_code 27 = .ok (.putfield 37, 3) := by decide +kernel
theorem d9_30 : decode prog_62_method_2_code 30 = .ok (.aload_n 0, 1) := by decide +kernel
theorem d9_31 : decode prog_62_method_2_code 31 = .ok (.iconst 0, 1) := by decide +kernel
theorem d9_32 : decode prog_62_method_2_code 32 = .ok (.putfield 40, 3) := by decide +kernel
theorem d9_35 : decode prog_62_method_2_code 35 = .ok (.return_, 1) := by decide +kernel
theorem pn_9 : plainName "com/example/quayside/quayside/Row" = true := by first | (simp [plainName, overriddenIn]; done) | decide +kernel
theorem pd_4 : parseMethodDescriptor "([ZZ)V" = some ⟨[(.array .boolean), .boolean], none⟩ := by decide +kernel
def Q_rm9 (Z : State) (x : Addr) (o : Addr) (k : Nat) (cap : Nat) (f : Nat → Int32) (h0 : Heap) (n0 : Nat) (v : Option Value) (h : Heap) (L : List Loc) : Prop := v = none ∧ Fr n0 L ∧ own_Kx h0 h x ∧ (own_Row Z h n0 x o 0 cap f)
set_option maxRecDepth 65536 in
set_option maxHeartbeats 40000000 in
theorem rm9 (l : Launch) (Z : State) (a0 : Array Value) (hw : ∀ d ∈ tables_1, d.before a0 Z = true) (ws : List Jvm.Cond) (x : Addr) (o : Addr) (k : Nat) (cap : Nat) (f : Nat → Int32) (h0 : Heap) (n0 : Nat) (Z0 : n0 ≤ h0.size) (row : own_Row Z h0 n0 x o k cap f) (pr1 : own_Lt h0 x) :
    own_Met l Z h0 (⟨"com/example/quayside/quayside/Row", "clear", "()V"⟩ : MethodName) prog_62_method_2_code 1 none ws ({ frames := 1, cells := 0, slots := 0, locals := 15 } : Room) #[(.ref o)] (Q_rm9 Z x o k cap f h0 n0) := by
  refine own_enter (plainFor_of_name pn_9) ?_
  intro p e s m below meth c T0 X0 hx hby hml hret hlk hown hnm hZ e0
  have N0 := Fr.nil n0
  have kx0 : own_Kx h0 h0 x := own_Kx.refl
  rw [show entryFrame m #[(.ref o)] 1 = (mkF m 0 #[.val (.ref o)] []) from by first | (simp [entryFrame, mkF, argsToLocals, Value.category]; done) | rfl]
  obtain ⟨rs, re, bs, gs, ge, tx, r, hE, hF1, hF2, hF3, hF4, hF5, hF6, hA1, hA2, hg1, hg2, hg3, hn1, hn2, hn3, hn4, hn5, hn6, hkc, hcap, hf01, hN⟩ := row
  rcases hN with ⟨hm1, hm2, hf0⟩ | ⟨rn, mn, c', g, hm1, hm2, hA3, hg4, hn7, hn8, hn9, hn10, hmn, hmc, hck, hq1, hq2, hq3⟩
  · skip
    refine own_Go.of (S' := (T0.setTop (mkF m 1 #[.val (.ref o)] [(.ref o)]))) (fun t kt => ?_) ?_
    · show Steps p.tables e below (T0.setTop (mkF m 0 #[.val (.ref o)] [])) _
      refine XS.aloadN X0.here hx rfl (own_hb hby d9_0) rfl rfl ?_
      exact kt
    obtain ⟨T1845, X1845, e1845, st1845⟩ := getF X0 hx hZ hown (host := "") (Or.inl (hw _ (List.mem_of_getElem? (i := 51) rfl))) Via.refl e0 hm2 (g := (mkF m 1 #[.val (.ref o)] [(.ref o)])) rfl rfl (own_hb hby d9_1)
    refine own_Go.of (S' := (T1845.setTop (mkF m 4 #[.val (.ref o)] [(.int (0 : Int32))]))) st1845 ?_
    refine own_Go.of (S' := (T1845.setTop (mkF m 22 #[.val (.ref o)] [(.int (0 : Int32)), (.ref o)]))) (fun t kt => ?_) ?_
    · show Steps p.tables e below (T1845.setTop (mkF m 4 #[.val (.ref o)] [(.int (0 : Int32))])) _
      refine XS.ifYes X1845.here hx rfl (pc0 := 4) (pc' := 20) rfl (own_hb hby d9_4) rfl ((if0 _ _).trans (flt (by decide : ¬ ((0 : Int32) < (0 : Int32)))).2.2.2) (by decide) (by decide) ?_
      show Steps p.tables e below (T1845.setTop (mkF m 20 #[.val (.ref o)] [])) _
      refine XS.aloadN X1845.here hx rfl (own_hb hby d9_20) rfl rfl ?_
      show Steps p.tables e below (T1845.setTop (mkF m 21 #[.val (.ref o)] [(.ref o)])) _
      refine XS.iconst X1845.here hx rfl (own_hb hby d9_21) ?_
      exact kt
    obtain ⟨T1846, h1846, X1846, e1846, W1846, st1846⟩ := putF X1845 hx hZ hown (host := "") (Or.inl (hw _ (List.mem_of_getElem? (i := 30) rfl))) Via.refl e1845 hF3 hE (Or.inl (hw _ (List.mem_of_getElem? (i := 31) rfl))) (hw _ (List.mem_of_getElem? (i := 2) rfl)) (ty := .int) (by decide) rfl rfl (g := (mkF m 22 #[.val (.ref o)] [(.int (0 : Int32)), (.ref o)])) rfl rfl (own_hb hby d9_22)
    refine own_Go.of (S' := (T1846.setTop (mkF m 25 #[.val (.ref o)] []))) st1846 ?_
    have kx1847 : own_Kx h0 h1846 x := kx0.wr W1846 hn4
    have f1848 : own_Lt h1846 x := pr1.wr W1846
    have f1849 : Exa Z h1846 o "com/example/quayside/quayside/Row" := hE.wr W1846
    have f1850 : Fld Z h1846 o "com/example/quayside/quayside/Row" "starts" "[I" (.ref rs) := hF1.other W1846 (Or.inr (slot_ne (Or.inl (hw _ (List.mem_of_getElem? (i := 15) rfl))) (Or.inl (hw _ (List.mem_of_getElem? (i := 31) rfl))) (by decide) (t := (.array .int)) (t' := .int) (by decide) (by decide)))
    have f1851 : Fld Z h1846 o "com/example/quayside/quayside/Row" "ends" "[I" (.ref re) := hF2.other W1846 (Or.inr (slot_ne (Or.inl (hw _ (List.mem_of_getElem? (i := 17) rfl))) (Or.inl (hw _ (List.mem_of_getElem? (i := 31) rfl))) (by decide) (t := (.array .int)) (t' := .int) (by decide) (by decide)))
    have f1852 : Fld Z h1846 o "com/example/quayside/quayside/Row" "reach" "I" (.int r) := hF4.other W1846 (Or.inr (slot_ne (Or.inl (hw _ (List.mem_of_getElem? (i := 33) rfl))) (Or.inl (hw _ (List.mem_of_getElem? (i := 31) rfl))) (by decide) (t := .int) (t' := .int) (by decide) (by decide)))
    have f1853 : Fld Z h1846 o "com/example/quayside/quayside/Row" "text" "Z" (.int tx) := hF5.other W1846 (Or.inr (slot_ne (Or.inl (hw _ (List.mem_of_getElem? (i := 39) rfl))) (Or.inl (hw _ (List.mem_of_getElem? (i := 31) rfl))) (by decide) (t := .boolean) (t' := .int) (by decide) (by decide)))
    have f1854 : Fld Z h1846 o "com/example/quayside/quayside/Row" "bytes" "[B" (.ref bs) := hF6.other W1846 (Or.inr (slot_ne (Or.inl (hw _ (List.mem_of_getElem? (i := 12) rfl))) (Or.inl (hw _ (List.mem_of_getElem? (i := 31) rfl))) (by decide) (t := (.array .byte)) (t' := .int) (by decide) (by decide)))
    have f1855 : own_Ar Z h1846 rs .int cap (own_I gs) := hA1.other W1846 (Ne.symm hn1)
    have f1856 : own_Ar Z h1846 re .int cap (own_I ge) := hA2.other W1846 (Ne.symm hn2)
    have f1857 : Fld Z h1846 o "com/example/quayside/quayside/Row" "nulls" "[Z" .null := hm1.other W1846 (Or.inr (slot_ne (Or.inl (hw _ (List.mem_of_getElem? (i := 65) rfl))) (Or.inl (hw _ (List.mem_of_getElem? (i := 31) rfl))) (by decide) (t := (.array .boolean)) (t' := .int) (by decide) (by decide)))
    have f1858 : Fld Z h1846 o "com/example/quayside/quayside/Row" "nullCount" "I" (.int (0 : Int32)) := hm2.other W1846 (Or.inr (slot_ne (Or.inl (hw _ (List.mem_of_getElem? (i := 52) rfl))) (Or.inl (hw _ (List.mem_of_getElem? (i := 31) rfl))) (by decide) (t := .int) (t' := .int) (by decide) (by decide)))
    have z1859 : n0 ≤ h1846.size := Nat.le_trans Z0 (Keep.of_wr W1846).1
    have f1860 : Fld Z h1846 o "com/example/quayside/quayside/Row" "size" "I" (.int (0 : Int32)) := hF3.same W1846
    have N1846 := Fr.snoc X1846 N0 hg1
    refine own_Go.of (S' := (T1846.setTop (mkF m 27 #[.val (.ref o)] [(.int (0 : Int32)), (.ref o)]))) (fun t kt => ?_) ?_
    · show Steps p.tables e below (T1846.setTop (mkF m 25 #[.val (.ref o)] [])) _
      refine XS.aloadN X1846.here hx rfl (own_hb hby d9_25) rfl rfl ?_
      show Steps p.tables e below (T1846.setTop (mkF m 26 #[.val (.ref o)] [(.ref o)])) _
      refine XS.iconst X1846.here hx rfl (own_hb hby d9_26) ?_
      exact kt
    obtain ⟨T1861, h1861, X1861, e1861, W1861, st1861⟩ := putF X1846 hx hZ hown (host := "") (Or.inl (hw _ (List.mem_of_getElem? (i := 32) rfl))) Via.refl e1846 f1852 f1849 (Or.inl (hw _ (List.mem_of_getElem? (i := 33) rfl))) (hw _ (List.mem_of_getElem? (i := 2) rfl)) (ty := .int) (by decide) rfl rfl (g := (mkF m 27 #[.val (.ref o)] [(.int (0 : Int32)), (.ref o)])) rfl rfl (own_hb hby d9_27)
    refine own_Go.of (S' := (T1861.setTop (mkF m 30 #[.val (.ref o)] []))) st1861 ?_
    have kx1862 : own_Kx h0 h1861 x := kx1847.wr W1861 hn4
    have f1863 : own_Lt h1861 x := f1848.wr W1861
    have f1864 : Exa Z h1861 o "com/example/quayside/quayside/Row" := f1849.wr W1861
    have f1865 : Fld Z h1861 o "com/example/quayside/quayside/Row" "starts" "[I" (.ref rs) := f1850.other W1861 (Or.inr (slot_ne (Or.inl (hw _ (List.mem_of_getElem? (i := 15) rfl))) (Or.inl (hw _ (List.mem_of_getElem? (i := 33) rfl))) (by decide) (t := (.array .int)) (t' := .int) (by decide) (by decide)))
    have f1866 : Fld Z h1861 o "com/example/quayside/quayside/Row" "ends" "[I" (.ref re) := f1851.other W1861 (Or.inr (slot_ne (Or.inl (hw _ (List.mem_of_getElem? (i := 17) rfl))) (Or.inl (hw _ (List.mem_of_getElem? (i := 33) rfl))) (by decide) (t := (.array .int)) (t' := .int) (by decide) (by decide)))
    have f1867 : Fld Z h1861 o "com/example/quayside/quayside/Row" "size" "I" (.int (0 : Int32)) := f1860.other W1861 (Or.inr (slot_ne (Or.inl (hw _ (List.mem_of_getElem? (i := 31) rfl))) (Or.inl (hw _ (List.mem_of_getElem? (i := 33) rfl))) (by decide) (t := .int) (t' := .int) (by decide) (by decide)))
    have f1868 : Fld Z h1861 o "com/example/quayside/quayside/Row" "text" "Z" (.int tx) := f1853.other W1861 (Or.inr (slot_ne (Or.inl (hw _ (List.mem_of_getElem? (i := 39) rfl))) (Or.inl (hw _ (List.mem_of_getElem? (i := 33) rfl))) (by decide) (t := .boolean) (t' := .int) (by decide) (by decide)))
    have f1869 : Fld Z h1861 o "com/example/quayside/quayside/Row" "bytes" "[B" (.ref bs) := f1854.other W1861 (Or.inr (slot_ne (Or.inl (hw _ (List.mem_of_getElem? (i := 12) rfl))) (Or.inl (hw _ (List.mem_of_getElem? (i := 33) rfl))) (by decide) (t := (.array .byte)) (t' := .int) (by decide) (by decide)))
    have f1870 : own_Ar Z h1861 rs .int cap (own_I gs) := f1855.other W1861 (Ne.symm hn1)
    have f1871 : own_Ar Z h1861 re .int cap (own_I ge) := f1856.other W1861 (Ne.symm hn2)
    have f1872 : Fld Z h1861 o "com/example/quayside/quayside/Row" "nulls" "[Z" .null := f1857.other W1861 (Or.inr (slot_ne (Or.inl (hw _ (List.mem_of_getElem? (i := 65) rfl))) (Or.inl (hw _ (List.mem_of_getElem? (i := 33) rfl))) (by decide) (t := (.array .boolean)) (t' := .int) (by decide) (by decide)))
    have f1873 : Fld Z h1861 o "com/example/quayside/quayside/Row" "nullCount" "I" (.int (0 : Int32)) := f1858.other W1861 (Or.inr (slot_ne (Or.inl (hw _ (List.mem_of_getElem? (i := 52) rfl))) (Or.inl (hw _ (List.mem_of_getElem? (i := 33) rfl))) (by decide) (t := .int) (t' := .int) (by decide) (by decide)))
    have z1874 : n0 ≤ h1861.size := Nat.le_trans z1859 (Keep.of_wr W1861).1
    have f1875 : Fld Z h1861 o "com/example/quayside/quayside/Row" "reach" "I" (.int (0 : Int32)) := f1852.same W1861
    have N1861 := Fr.snoc X1861 N1846 hg1
    refine own_Go.of (S' := (T1861.setTop (mkF m 32 #[.val (.ref o)] [(.int (0 : Int32)), (.ref o)]))) (fun t kt => ?_) ?_
    · show Steps p.tables e below (T1861.setTop (mkF m 30 #[.val (.ref o)] [])) _
      refine XS.aloadN X1861.here hx rfl (own_hb hby d9_30) rfl rfl ?_
      show Steps p.tables e below (T1861.setTop (mkF m 31 #[.val (.ref o)] [(.ref o)])) _
      refine XS.iconst X1861.here hx rfl (own_hb hby d9_31) ?_
      exact kt
    obtain ⟨T1876, h1876, X1876, e1876, W1876, st1876⟩ := putFN X1861 hx hZ hown (hw _ (List.mem_of_getElem? (i := 38) rfl)) Via.refl e1861 f1868 f1864 (Or.inl (hw _ (List.mem_of_getElem? (i := 39) rfl))) (hw _ (List.mem_of_getElem? (i := 2) rfl)) (ty := .boolean) (v' := (.int (nar .boolean (0 : Int32)))) (by decide) rfl (fits_nar_bool _) (g := (mkF m 32 #[.val (.ref o)] [(.int (0 : Int32)), (.ref o)])) rfl rfl (own_hb hby d9_32)
    refine own_Go.of (S' := (T1876.setTop (mkF m 35 #[.val (.ref o)] []))) st1876 ?_
    have kx1877 : own_Kx h0 h1876 x := kx1862.wr W1876 hn4
    have f1878 : own_Lt h1876 x := f1863.wr W1876
    have f1879 : Exa Z h1876 o "com/example/quayside/quayside/Row" := f1864.wr W1876
    have f1880 : Fld Z h1876 o "com/example/quayside/quayside/Row" "starts" "[I" (.ref rs) := f1865.other W1876 (Or.inr (slot_ne (Or.inl (hw _ (List.mem_of_getElem? (i := 15) rfl))) (Or.inl (hw _ (List.mem_of_getElem? (i := 39) rfl))) (by decide) (t := (.array .int)) (t' := .boolean) (by decide) (by decide)))
    have f1881 : Fld Z h1876 o "com/example/quayside/quayside/Row" "ends" "[I" (.ref re) := f1866.other W1876 (Or.inr (slot_ne (Or.inl (hw _ (List.mem_of_getElem? (i := 17) rfl))) (Or.inl (hw _ (List.mem_of_getElem? (i := 39) rfl))) (by decide) (t := (.array .int)) (t' := .boolean) (by decide) (by decide)))
    have f1882 : Fld Z h1876 o "com/example/quayside/quayside/Row" "size" "I" (.int (0 : Int32)) := f1867.other W1876 (Or.inr (slot_ne (Or.inl (hw _ (List.mem_of_getElem? (i := 31) rfl))) (Or.inl (hw _ (List.mem_of_getElem? (i := 39) rfl))) (by decide) (t := .int) (t' := .boolean) (by decide) (by decide)))
    have f1883 : Fld Z h1876 o "com/example/quayside/quayside/Row" "reach" "I" (.int (0 : Int32)) := f1875.other W1876 (Or.inr (slot_ne (Or.inl (hw _ (List.mem_of_getElem? (i := 33) rfl))) (Or.inl (hw _ (List.mem_of_getElem? (i := 39) rfl))) (by decide) (t := .int) (t' := .boolean) (by decide) (by decide)))
    have f1884 : Fld Z h1876 o "com/example/quayside/quayside/Row" "bytes" "[B" (.ref bs) := f1869.other W1876 (Or.inr (slot_ne (Or.inl (hw _ (List.mem_of_getElem? (i := 12) rfl))) (Or.inl (hw _ (List.mem_of_getElem? (i := 39) rfl))) (by decide) (t := (.array .byte)) (t' := .boolean) (by decide) (by decide)))
    have f1885 : own_Ar Z h1876 rs .int cap (own_I gs) := f1870.other W1876 (Ne.symm hn1)
    have f1886 : own_Ar Z h1876 re .int cap (own_I ge) := f1871.other W1876 (Ne.symm hn2)
    have f1887 : Fld Z h1876 o "com/example/quayside/quayside/Row" "nulls" "[Z" .null := f1872.other W1876 (Or.inr (slot_ne (Or.inl (hw _ (List.mem_of_getElem? (i := 65) rfl))) (Or.inl (hw _ (List.mem_of_getElem? (i := 39) rfl))) (by decide) (t := (.array .boolean)) (t' := .boolean) (by decide) (by decide)))
    have f1888 : Fld Z h1876 o "com/example/quayside/quayside/Row" "nullCount" "I" (.int (0 : Int32)) := f1873.other W1876 (Or.inr (slot_ne (Or.inl (hw _ (List.mem_of_getElem? (i := 52) rfl))) (Or.inl (hw _ (List.mem_of_getElem? (i := 39) rfl))) (by decide) (t := .int) (t' := .boolean) (by decide) (by decide)))
    have z1889 : n0 ≤ h1876.size := Nat.le_trans z1874 (Keep.of_wr W1876).1
    have f1890 : Fld Z h1876 o "com/example/quayside/quayside/Row" "text" "Z" (.int (nar .boolean (0 : Int32))) := f1868.same W1876
    have N1876 := Fr.snoc X1876 N1861 hg1
    have f1891 : Fld Z h1876 o "com/example/quayside/quayside/Row" "size" "I" (.int (Int32.ofNat 0)) := f1882
    have f1892 : Fld Z h1876 o "com/example/quayside/quayside/Row" "text" "Z" (.int (0 : Int32)) := f1890
    exact own_retV X1876 hx hlk hret (own_hb hby d9_35) e1876 ⟨rfl, N1876, kx1877, ⟨rs, re, bs, gs, ge, (0 : Int32), (0 : Int32), f1879, f1880, f1881, f1891, f1883, f1892, f1884, f1885, f1886, hg1, hg2, hg3, hn1, hn2, hn3, hn4, hn5, hn6, (Nat.zero_le _), hcap, (fun i hi => absurd hi (Nat.not_lt_zero i)), Or.inl ⟨f1887, f1888, fun i hi => absurd hi (Nat.not_lt_zero i)⟩⟩⟩ (by decide) (by decide)
  · skip
    refine own_Go.of (S' := (T0.setTop (mkF m 1 #[.val (.ref o)] [(.ref o)]))) (fun t kt => ?_) ?_
    · show Steps p.tables e below (T0.setTop (mkF m 0 #[.val (.ref o)] [])) _
      refine XS.aloadN X0.here hx rfl (own_hb hby d9_0) rfl rfl ?_
      exact kt
    obtain ⟨T1893, X1893, e1893, st1893⟩ := getF X0 hx hZ hown (host := "") (Or.inl (hw _ (List.mem_of_getElem? (i := 51) rfl))) Via.refl e0 hm2 (g := (mkF m 1 #[.val (.ref o)] [(.ref o)])) rfl rfl (own_hb hby d9_1)
    refine own_Go.of (S' := (T1893.setTop (mkF m 4 #[.val (.ref o)] [(.int (Int32.ofNat c'))]))) st1893 ?_
    by_cases hc4_1894 : 0 < c'
    · skip
      refine own_Go.of (S' := (T1893.setTop (mkF m 8 #[.val (.ref o)] [(.ref o)]))) (fun t kt => ?_) ?_
      · show Steps p.tables e below (T1893.setTop (mkF m 4 #[.val (.ref o)] [(.int (Int32.ofNat c'))])) _
        refine XS.ifNo X1893.here hx rfl (own_hb hby d9_4) rfl ((if0 _ _).trans (tlt ((own_ltN (by omega) (by omega)).mpr hc4_1894)).2.2.2) ?_
        show Steps p.tables e below (T1893.setTop (mkF m 7 #[.val (.ref o)] [])) _
        refine XS.aloadN X1893.here hx rfl (own_hb hby d9_7) rfl rfl ?_
        exact kt
      obtain ⟨T1895, X1895, e1895, st1895⟩ := getF X1893 hx hZ hown (host := "") (Or.inl (hw _ (List.mem_of_getElem? (i := 64) rfl))) Via.refl e1893 hm1 (g := (mkF m 8 #[.val (.ref o)] [(.ref o)])) rfl rfl (own_hb hby d9_8)
      refine own_Go.of (S' := (T1895.setTop (mkF m 11 #[.val (.ref o)] [(.ref rn)]))) st1895 ?_
      refine own_Go.of (S' := (T1895.setTop (mkF m 12 #[.val (.ref o)] [(.int (0 : Int32)), (.ref rn)]))) (fun t kt => ?_) ?_
      · show Steps p.tables e below (T1895.setTop (mkF m 11 #[.val (.ref o)] [(.ref rn)])) _
        refine XS.iconst X1895.here hx rfl (own_hb hby d9_11) ?_
        exact kt
      obtain ⟨_, _, ⟨T1896, L1896, k1896, n1896⟩, -, X1896, ⟨Lc1896, hQ1896, l1896, y1896, z1896⟩, st1896⟩ := Jvm.LawKit.callS X1895 hx (y := (⟨"java/util/Arrays", "fill", "([ZZ)V"⟩ : MethodName)) hown (mvT hZ (hw _ (List.mem_of_getElem? (i := 80) rfl))) (mvT hZ (hw _ (List.mem_of_getElem? (i := 81) rfl))) (mvT hZ (hw _ (List.mem_of_getElem? (i := 68) rfl))) (mvT hZ (hw _ (List.mem_of_getElem? (i := 82) rfl))) (by decide) (backOf (W := 0) (rm14 l Z a0 hw [] rn mn g h0 n0 Z0 hA3 hg4 (by omega)) hZ (hw _ (List.mem_of_getElem? (i := 82) rfl)) (hw _ (List.mem_of_getElem? (i := 68) rfl)) (by decide) (by decide)) (g := (mkF m 12 #[.val (.ref o)] [(.int (0 : Int32)), (.ref rn)])) rfl (by rw [hml]; rfl) (argsL := [(.ref rn), (.int (0 : Int32))]) (rest := []) (lenOf pd_4 rfl) rfl (by show 2 * 0 + _ ≤ _; exact Nat.le_of_eq rfl) (own_hb hby d9_12) (fun _ _ => ⟨rfl, e1895, (by decide : 0 + 0 ≤ _), (by decide : 0 + 0 ≤ _)⟩)
      dsimp only [Pt.U, Pt.locs, Pt.cells, Pt.slots] at X1896 l1896 y1896 z1896 st1896 hQ1896
      subst l1896 y1896 z1896
      obtain ⟨rfl, N1896q, K1896, p1896_0⟩ := hQ1896
      have N1896 := Fr.app N0 N1896q
      refine own_Go.of (S' := (T1896.setTop (mkF m 15 #[.val (.ref o)] []))) (fun t kt => st1896 t kt) ?_
      have kx1897 : own_Kx h0 T1896.heap x := kx0.keep K1896 (ninS hn10 nin0)
      have f1898 : own_Lt T1896.heap x := pr1.keep K1896
      have f1899 : Exa Z T1896.heap o "com/example/quayside/quayside/Row" := hE.keep K1896
      have f1900 : Fld Z T1896.heap o "com/example/quayside/quayside/Row" "starts" "[I" (.ref rs) := hF1.keep K1896 (ninS hn7 nin0)
      have f1901 : Fld Z T1896.heap o "com/example/quayside/quayside/Row" "ends" "[I" (.ref re) := hF2.keep K1896 (ninS hn7 nin0)
      have f1902 : Fld Z T1896.heap o "com/example/quayside/quayside/Row" "size" "I" (.int (Int32.ofNat k)) := hF3.keep K1896 (ninS hn7 nin0)
      have f1903 : Fld Z T1896.heap o "com/example/quayside/quayside/Row" "reach" "I" (.int r) := hF4.keep K1896 (ninS hn7 nin0)
      have f1904 : Fld Z T1896.heap o "com/example/quayside/quayside/Row" "text" "Z" (.int tx) := hF5.keep K1896 (ninS hn7 nin0)
      have f1905 : Fld Z T1896.heap o "com/example/quayside/quayside/Row" "bytes" "[B" (.ref bs) := hF6.keep K1896 (ninS hn7 nin0)
      have f1906 : own_Ar Z T1896.heap rs .int cap (own_I gs) := hA1.keep K1896 (ninS hn8 nin0)
      have f1907 : own_Ar Z T1896.heap re .int cap (own_I ge) := hA2.keep K1896 (ninS hn9 nin0)
      have f1908 : Fld Z T1896.heap o "com/example/quayside/quayside/Row" "nulls" "[Z" (.ref rn) := hm1.keep K1896 (ninS hn7 nin0)
      have f1909 : Fld Z T1896.heap o "com/example/quayside/quayside/Row" "nullCount" "I" (.int (Int32.ofNat c')) := hm2.keep K1896 (ninS hn7 nin0)
      have z1910 : n0 ≤ T1896.heap.size := Nat.le_trans Z0 K1896.1
      refine own_Go.of (S' := (T1896.setTop (mkF m 17 #[.val (.ref o)] [(.int (0 : Int32)), (.ref o)]))) (fun t kt => ?_) ?_
      · show Steps p.tables e below (T1896.setTop (mkF m 15 #[.val (.ref o)] [])) _
        refine XS.aloadN X1896.here hx rfl (own_hb hby d9_15) rfl rfl ?_
        show Steps p.tables e below (T1896.setTop (mkF m 16 #[.val (.ref o)] [(.ref o)])) _
        refine XS.iconst X1896.here hx rfl (own_hb hby d9_16) ?_
        exact kt
      obtain ⟨T1911, h1911, X1911, e1911, W1911, st1911⟩ := putF X1896 hx hZ hown (host := "") (Or.inl (hw _ (List.mem_of_getElem? (i := 51) rfl))) Via.refl rfl f1909 f1899 (Or.inl (hw _ (List.mem_of_getElem? (i := 52) rfl))) (hw _ (List.mem_of_getElem? (i := 2) rfl)) (ty := .int) (by decide) rfl rfl (g := (mkF m 17 #[.val (.ref o)] [(.int (0 : Int32)), (.ref o)])) rfl rfl (own_hb hby d9_17)
      refine own_Go.of (S' := (T1911.setTop (mkF m 20 #[.val (.ref o)] []))) st1911 ?_
      have kx1912 : own_Kx h0 h1911 x := kx1897.wr W1911 hn4
      have f1913 : own_Lt h1911 x := f1898.wr W1911
      have f1914 : Exa Z h1911 o "com/example/quayside/quayside/Row" := f1899.wr W1911
      have f1915 : Fld Z h1911 o "com/example/quayside/quayside/Row" "starts" "[I" (.ref rs) := f1900.other W1911 (Or.inr (slot_ne (Or.inl (hw _ (List.mem_of_getElem? (i := 15) rfl))) (Or.inl (hw _ (List.mem_of_getElem? (i := 52) rfl))) (by decide) (t := (.array .int)) (t' := .int) (by decide) (by decide)))
      have f1916 : Fld Z h1911 o "com/example/quayside/quayside/Row" "ends" "[I" (.ref re) := f1901.other W1911 (Or.inr (slot_ne (Or.inl (hw _ (List.mem_of_getElem? (i := 17) rfl))) (Or.inl (hw _ (List.mem_of_getElem? (i := 52) rfl))) (by decide) (t := (.array .int)) (t' := .int) (by decide) (by decide)))
      have f1917 : Fld Z h1911 o "com/example/quayside/quayside/Row" "size" "I" (.int (Int32.ofNat k)) := f1902.other W1911 (Or.inr (slot_ne (Or.inl (hw _ (List.mem_of_getElem? (i := 31) rfl))) (Or.inl (hw _ (List.mem_of_getElem? (i := 52) rfl))) (by decide) (t := .int) (t' := .int) (by decide) (by decide)))
      have f1918 : Fld Z h1911 o "com/example/quayside/quayside/Row" "reach" "I" (.int r) := f1903.other W1911 (Or.inr (slot_ne (Or.inl (hw _ (List.mem_of_getElem? (i := 33) rfl))) (Or.inl (hw _ (List.mem_of_getElem? (i := 52) rfl))) (by decide) (t := .int) (t' := .int) (by decide) (by decide)))
      have f1919 : Fld Z h1911 o "com/example/quayside/quayside/Row" "text" "Z" (.int tx) := f1904.other W1911 (Or.inr (slot_ne (Or.inl (hw _ (List.mem_of_getElem? (i := 39) rfl))) (Or.inl (hw _ (List.mem_of_getElem? (i := 52) rfl))) (by decide) (t := .boolean) (t' := .int) (by decide) (by decide)))
      have f1920 : Fld Z h1911 o "com/example/quayside/quayside/Row" "bytes" "[B" (.ref bs) := f1905.other W1911 (Or.inr (slot_ne (Or.inl (hw _ (List.mem_of_getElem? (i := 12) rfl))) (Or.inl (hw _ (List.mem_of_getElem? (i := 52) rfl))) (by decide) (t := (.array .byte)) (t' := .int) (by decide) (by decide)))
      have f1921 : own_Ar Z h1911 rs .int cap (own_I gs) := f1906.other W1911 (Ne.symm hn1)
      have f1922 : own_Ar Z h1911 re .int cap (own_I ge) := f1907.other W1911 (Ne.symm hn2)
      have f1923 : Fld Z h1911 o "com/example/quayside/quayside/Row" "nulls" "[Z" (.ref rn) := f1908.other W1911 (Or.inr (slot_ne (Or.inl (hw _ (List.mem_of_getElem? (i := 65) rfl))) (Or.inl (hw _ (List.mem_of_getElem? (i := 52) rfl))) (by decide) (t := (.array .boolean)) (t' := .int) (by decide) (by decide)))
      have f1924 : own_Ar Z h1911 rn .boolean mn (own_I (fun _ => (0 : Int32))) := p1896_0.other W1911 (Ne.symm hn7)
      have z1925 : n0 ≤ h1911.size := Nat.le_trans z1910 (Keep.of_wr W1911).1
      have f1926 : Fld Z h1911 o "com/example/quayside/quayside/Row" "nullCount" "I" (.int (0 : Int32)) := f1909.same W1911
      have N1911 := Fr.snoc X1911 N1896 hg1
      refine own_Go.of (S' := (T1911.setTop (mkF m 22 #[.val (.ref o)] [(.int (0 : Int32)), (.ref o)]))) (fun t kt => ?_) ?_
      · show Steps p.tables e below (T1911.setTop (mkF m 20 #[.val (.ref o)] [])) _
        refine XS.aloadN X1911.here hx rfl (own_hb hby d9_20) rfl rfl ?_
        show Steps p.tables e below (T1911.setTop (mkF m 21 #[.val (.ref o)] [(.ref o)])) _
        refine XS.iconst X1911.here hx rfl (own_hb hby d9_21) ?_
        exact kt
      obtain ⟨T1927, h1927, X1927, e1927, W1927, st1927⟩ := putF X1911 hx hZ hown (host := "") (Or.inl (hw _ (List.mem_of_getElem? (i := 30) rfl))) Via.refl e1911 f1917 f1914 (Or.inl (hw _ (List.mem_of_getElem? (i := 31) rfl))) (hw _ (List.mem_of_getElem? (i := 2) rfl)) (ty := .int) (by decide) rfl rfl (g := (mkF m 22 #[.val (.ref o)] [(.int (0 : Int32)), (.ref o)])) rfl rfl (own_hb hby d9_22)
      refine own_Go.of (S' := (T1927.setTop (mkF m 25 #[.val (.ref o)] []))) st1927 ?_
      have kx1928 : own_Kx h0 h1927 x := kx1912.wr W1927 hn4
      have f1929 : own_Lt h1927 x := f1913.wr W1927
      have f1930 : Exa Z h1927 o "com/example/quayside/quayside/Row" := f1914.wr W1927
      have f1931 : Fld Z h1927 o "com/example/quayside/quayside/Row" "starts" "[I" (.ref rs) := f1915.other W1927 (Or.inr (slot_ne (Or.inl (hw _ (List.mem_of_getElem? (i := 15) rfl))) (Or.inl (hw _ (List.mem_of_getElem? (i := 31) rfl))) (by decide) (t := (.array .int)) (t' := .int) (by decide) (by decide)))
      have f1932 : Fld Z h1927 o "com/example/quayside/quayside/Row" "ends" "[I" (.ref re) := f1916.other W1927 (Or.inr (slot_ne (Or.inl (hw _ (List.mem_of_getElem? (i := 17) rfl))) (Or.inl (hw _ (List.mem_of_getElem? (i := 31) rfl))) (by decide) (t := (.array .int)) (t' := .int) (by decide) (by decide)))
      have f1933 : Fld Z h1927 o "com/example/quayside/quayside/Row" "reach" "I" (.int r) := f1918.other W1927 (Or.inr (slot_ne (Or.inl (hw _ (List.mem_of_getElem? (i := 33) rfl))) (Or.inl (hw _ (List.mem_of_getElem? (i := 31) rfl))) (by decide) (t := .int) (t' := .int) (by decide) (by decide)))
      have f1934 : Fld Z h1927 o "com/example/quayside/quayside/Row" "text" "Z" (.int tx) := f1919.other W1927 (Or.inr (slot_ne (Or.inl (hw _ (List.mem_of_getElem? (i := 39) rfl))) (Or.inl (hw _ (List.mem_of_getElem? (i := 31) rfl))) (by decide) (t := .boolean) (t' := .int) (by decide) (by decide)))
      have f1935 : Fld Z h1927 o "com/example/quayside/quayside/Row" "bytes" "[B" (.ref bs) := f1920.other W1927 (Or.inr (slot_ne (Or.inl (hw _ (List.mem_of_getElem? (i := 12) rfl))) (Or.inl (hw _ (List.mem_of_getElem? (i := 31) rfl))) (by decide) (t := (.array .byte)) (t' := .int) (by decide) (by decide)))
      have f1936 : own_Ar Z h1927 rs .int cap (own_I gs) := f1921.other W1927 (Ne.symm hn1)
      have f1937 : own_Ar Z h1927 re .int cap (own_I ge) := f1922.other W1927 (Ne.symm hn2)
      have f1938 : Fld Z h1927 o "com/example/quayside/quayside/Row" "nulls" "[Z" (.ref rn) := f1923.other W1927 (Or.inr (slot_ne (Or.inl (hw _ (List.mem_of_getElem? (i := 65) rfl))) (Or.inl (hw _ (List.mem_of_getElem? (i := 31) rfl))) (by decide) (t := (.array .boolean)) (t' := .int) (by decide) (by decide)))
      have f1939 : Fld Z h1927 o "com/example/quayside/quayside/Row" "nullCount" "I" (.int (0 : Int32)) := f1926.other W1927 (Or.inr (slot_ne (Or.inl (hw _ (List.mem_of_getElem? (i := 52) rfl))) (Or.inl (hw _ (List.mem_of_getElem? (i := 31) rfl))) (by decide) (t := .int) (t' := .int) (by decide) (by decide)))
      have f1940 : own_Ar Z h1927 rn .boolean mn (own_I (fun _ => (0 : Int32))) := f1924.other W1927 (Ne.symm hn7)
      have z1941 : n0 ≤ h1927.size := Nat.le_trans z1925 (Keep.of_wr W1927).1
      have f1942 : Fld Z h1927 o "com/example/quayside/quayside/Row" "size" "I" (.int (0 : Int32)) := f1917.same W1927
      have N1927 := Fr.snoc X1927 N1911 hg1
      refine own_Go.of (S' := (T1927.setTop (mkF m 27 #[.val (.ref o)] [(.int (0 : Int32)), (.ref o)]))) (fun t kt => ?_) ?_
      · show Steps p.tables e below (T1927.setTop (mkF m 25 #[.val (.ref o)] [])) _
        refine XS.aloadN X1927.here hx rfl (own_hb hby d9_25) rfl rfl ?_
        show Steps p.tables e below (T1927.setTop (mkF m 26 #[.val (.ref o)] [(.ref o)])) _
        refine XS.iconst X1927.here hx rfl (own_hb hby d9_26) ?_
        exact kt
      obtain ⟨T1943, h1943, X1943, e1943, W1943, st1943⟩ := putF X1927 hx hZ hown (host := "") (Or.inl (hw _ (List.mem_of_getElem? (i := 32) rfl))) Via.refl e1927 f1933 f1930 (Or.inl (hw _ (List.mem_of_getElem? (i := 33) rfl))) (hw _ (List.mem_of_getElem? (i := 2) rfl)) (ty := .int) (by decide) rfl rfl (g := (mkF m 27 #[.val (.ref o)] [(.int (0 : Int32)), (.ref o)])) rfl rfl (own_hb hby d9_27)
      refine own_Go.of (S' := (T1943.setTop (mkF m 30 #[.val (.ref o)] []))) st1943 ?_
      have kx1944 : own_Kx h0 h1943 x := kx1928.wr W1943 hn4
      have f1945 : own_Lt h1943 x := f1929.wr W1943
      have f1946 : Exa Z h1943 o "com/example/quayside/quayside/Row" := f1930.wr W1943
      have f1947 : Fld Z h1943 o "com/example/quayside/quayside/Row" "starts" "[I" (.ref rs) := f1931.other W1943 (Or.inr (slot_ne (Or.inl (hw _ (List.mem_of_getElem? (i := 15) rfl))) (Or.inl (hw _ (List.mem_of_getElem? (i := 33) rfl))) (by decide) (t := (.array .int)) (t' := .int) (by decide) (by decide)))
      have f1948 : Fld Z h1943 o "com/example/quayside/quayside/Row" "ends" "[I" (.ref re) := f1932.other W1943 (Or.inr (slot_ne (Or.inl (hw _ (List.mem_of_getElem? (i := 17) rfl))) (Or.inl (hw _ (List.mem_of_getElem? (i := 33) rfl))) (by decide) (t := (.array .int)) (t' := .int) (by decide) (by decide)))
      have f1949 : Fld Z h1943 o "com/example/quayside/quayside/Row" "size" "I" (.int (0 : Int32)) := f1942.other W1943 (Or.inr (slot_ne (Or.inl (hw _ (List.mem_of_getElem? (i := 31) rfl))) (Or.inl (hw _ (List.mem_of_getElem? (i := 33) rfl))) (by decide) (t := .int) (t' := .int) (by decide) (by decide)))
      have f1950 : Fld Z h1943 o "com/example/quayside/quayside/Row" "text" "Z" (.int tx) := f1934.other W1943 (Or.inr (slot_ne (Or.inl (hw _ (List.mem_of_getElem? (i := 39) rfl))) (Or.inl (hw _ (List.mem_of_getElem? (i := 33) rfl))) (by decide) (t := .boolean) (t' := .int) (by decide) (by decide)))
      have f1951 : Fld Z h1943 o "com/example/quayside/quayside/Row" "bytes" "[B" (.ref bs) := f1935.other W1943 (Or.inr (slot_ne (Or.inl (hw _ (List.mem_of_getElem? (i := 12) rfl))) (Or.inl (hw _ (List.mem_of_getElem? (i := 33) rfl))) (by decide) (t := (.array .byte)) (t' := .int) (by decide) (by decide)))
      have f1952 : own_Ar Z h1943 rs .int cap (own_I gs) := f1936.other W1943 (Ne.symm hn1)
      have f1953 : own_Ar Z h1943 re .int cap (own_I ge) := f1937.other W1943 (Ne.symm hn2)
      have f1954 : Fld Z h1943 o "com/example/quayside/quayside/Row" "nulls" "[Z" (.ref rn) := f1938.other W1943 (Or.inr (slot_ne (Or.inl (hw _ (List.mem_of_getElem? (i := 65) rfl))) (Or.inl (hw _ (List.mem_of_getElem? (i := 33) rfl))) (by decide) (t := (.array .boolean)) (t' := .int) (by decide) (by decide)))
      have f1955 : Fld Z h1943 o "com/example/quayside/quayside/Row" "nullCount" "I" (.int (0 : Int32)) := f1939.other W1943 (Or.inr (slot_ne (Or.inl (hw _ (List.mem_of_getElem? (i := 52) rfl))) (Or.inl (hw _ (List.mem_of_getElem? (i := 33) rfl))) (by decide) (t := .int) (t' := .int) (by decide) (by decide)))
      have f1956 : own_Ar Z h1943 rn .boolean mn (own_I (fun _ => (0 : Int32))) := f1940.other W1943 (Ne.symm hn7)
      have z1957 : n0 ≤ h1943.size := Nat.le_trans z1941 (Keep.of_wr W1943).1
      have f1958 : Fld Z h1943 o "com/example/quayside/quayside/Row" "reach" "I" (.int (0 : Int32)) := f1933.same W1943
      have N1943 := Fr.snoc X1943 N1927 hg1
      refine own_Go.of (S' := (T1943.setTop (mkF m 32 #[.val (.ref o)] [(.int (0 : Int32)), (.ref o)]))) (fun t kt => ?_) ?_
      · show Steps p.tables e below (T1943.setTop (mkF m 30 #[.val (.ref o)] [])) _
        refine XS.aloadN X1943.here hx rfl (own_hb hby d9_30) rfl rfl ?_
        show Steps p.tables e below (T1943.setTop (mkF m 31 #[.val (.ref o)] [(.ref o)])) _
        refine XS.iconst X1943.here hx rfl (own_hb hby d9_31) ?_
        exact kt
      obtain ⟨T1959, h1959, X1959, e1959, W1959, st1959⟩ := putFN X1943 hx hZ hown (hw _ (List.mem_of_getElem? (i := 38) rfl)) Via.refl e1943 f1950 f1946 (Or.inl (hw _ (List.mem_of_getElem? (i := 39) rfl))) (hw _ (List.mem_of_getElem? (i := 2) rfl)) (ty := .boolean) (v' := (.int (nar .boolean (0 : Int32)))) (by decide) rfl (fits_nar_bool _) (g := (mkF m 32 #[.val (.ref o)] [(.int (0 : Int32)), (.ref o)])) rfl rfl (own_hb hby d9_32)
      refine own_Go.of (S' := (T1959.setTop (mkF m 35 #[.val (.ref o)] []))) st1959 ?_
      have kx1960 : own_Kx h0 h1959 x := kx1944.wr W1959 hn4
      have f1961 : own_Lt h1959 x := f1945.wr W1959
      have f1962 : Exa Z h1959 o "com/example/quayside/quayside/Row" := f1946.wr W1959
      have f1963 : Fld Z h1959 o "com/example/quayside/quayside/Row" "starts" "[I" (.ref rs) := f1947.other W1959 (Or.inr (slot_ne (Or.inl (hw _ (List.mem_of_getElem? (i := 15) rfl))) (Or.inl (hw _ (List.mem_of_getElem? (i := 39) rfl))) (by decide) (t := (.array .int)) (t' := .boolean) (by decide) (by decide)))
      have f1964 : Fld Z h1959 o "com/example/quayside/quayside/Row" "ends" "[I" (.ref re) := f1948.other W1959 (Or.inr (slot_ne (Or.inl (hw _ (List.mem_of_getElem? (i := 17) rfl))) (Or.inl (hw _ (List.mem_of_getElem? (i := 39) rfl))) (by decide) (t := (.array .int)) (t' := .boolean) (by decide) (by decide)))
      have f1965 : Fld Z h1959 o "com/example/quayside/quayside/Row" "size" "I" (.int (0 : Int32)) := f1949.other W1959 (Or.inr (slot_ne (Or.inl (hw _ (List.mem_of_getElem? (i := 31) rfl))) (Or.inl (hw _ (List.mem_of_getElem? (i := 39) rfl))) (by decide) (t := .int) (t' := .boolean) (by decide) (by decide)))
      have f1966 : Fld Z h1959 o "com/example/quayside/quayside/Row" "reach" "I" (.int (0 : Int32)) := f1958.other W1959 (Or.inr (slot_ne (Or.inl (hw _ (List.mem_of_getElem? (i := 33) rfl))) (Or.inl (hw _ (List.mem_of_getElem? (i := 39) rfl))) (by decide) (t := .int) (t' := .boolean) (by decide) (by decide)))
      have f1967 : Fld Z h1959 o "com/example/quayside/quayside/Row" "bytes" "[B" (.ref bs) := f1951.other W1959 (Or.inr (slot_ne (Or.inl (hw _ (List.mem_of_getElem? (i := 12) rfl))) (Or.inl (hw _ (List.mem_of_getElem? (i := 39) rfl))) (by decide) (t := (.array .byte)) (t' := .boolean) (by decide) (by decide)))
      have f1968 : own_Ar Z h1959 rs .int cap (own_I gs) := f1952.other W1959 (Ne.symm hn1)
      have f1969 : own_Ar Z h1959 re .int cap (own_I ge) := f1953.other W1959 (Ne.symm hn2)
      have f1970 : Fld Z h1959 o "com/example/quayside/quayside/Row" "nulls" "[Z" (.ref rn) := f1954.other W1959 (Or.inr (slot_ne (Or.inl (hw _ (List.mem_of_getElem? (i := 65) rfl))) (Or.inl (hw _ (List.mem_of_getElem? (i := 39) rfl))) (by decide) (t := (.array .boolean)) (t' := .boolean) (by decide) (by decide)))
      have f1971 : Fld Z h1959 o "com/example/quayside/quayside/Row" "nullCount" "I" (.int (0 : Int32)) := f1955.other W1959 (Or.inr (slot_ne (Or.inl (hw _ (List.mem_of_getElem? (i := 52) rfl))) (Or.inl (hw _ (List.mem_of_getElem? (i := 39) rfl))) (by decide) (t := .int) (t' := .boolean) (by decide) (by decide)))
      have f1972 : own_Ar Z h1959 rn .boolean mn (own_I (fun _ => (0 : Int32))) := f1956.other W1959 (Ne.symm hn7)
      have z1973 : n0 ≤ h1959.size := Nat.le_trans z1957 (Keep.of_wr W1959).1
      have f1974 : Fld Z h1959 o "com/example/quayside/quayside/Row" "text" "Z" (.int (nar .boolean (0 : Int32))) := f1950.same W1959
      have N1959 := Fr.snoc X1959 N1943 hg1
      have f1975 : Fld Z h1959 o "com/example/quayside/quayside/Row" "size" "I" (.int (Int32.ofNat 0)) := f1965
      have f1976 : Fld Z h1959 o "com/example/quayside/quayside/Row" "text" "Z" (.int (0 : Int32)) := f1974
      have f1977 : Fld Z h1959 o "com/example/quayside/quayside/Row" "nullCount" "I" (.int (Int32.ofNat 0)) := f1971
      exact own_retV X1959 hx hlk hret (own_hb hby d9_35) e1959 ⟨rfl, N1959, kx1960, ⟨rs, re, bs, gs, ge, (0 : Int32), (0 : Int32), f1962, f1963, f1964, f1975, f1966, f1976, f1967, f1968, f1969, hg1, hg2, hg3, hn1, hn2, hn3, hn4, hn5, hn6, (Nat.zero_le _), hcap, (fun i hi => absurd hi (Nat.not_lt_zero i)), Or.inr ⟨rn, mn, 0, (fun _ => (0 : Int32)), f1970, f1977, f1972, hg4, hn7, hn8, hn9, hn10, hmn, hmc, (by omega), (fun i hi => (if_neg (Nat.not_lt_zero i)).symm), (fun i _ hi => absurd hi (Nat.not_lt_zero i)), (fun _ i hi => rfl)⟩⟩⟩ (by decide) (by decide)
    · skip
      refine own_Go.of (S' := (T1893.setTop (mkF m 22 #[.val (.ref o)] [(.int (0 : Int32)), (.ref o)]))) (fun t kt => ?_) ?_
      · show Steps p.tables e below (T1893.setTop (mkF m 4 #[.val (.ref o)] [(.int (Int32.ofNat c'))])) _
        refine XS.ifYes X1893.here hx rfl (pc0 := 4) (pc' := 20) rfl (own_hb hby d9_4) rfl ((if0 _ _).trans (flt (fun q => hc4_1894 ((own_ltN (by omega) (by omega)).mp q))).2.2.2) (by decide) (by decide) ?_
        show Steps p.tables e below (T1893.setTop (mkF m 20 #[.val (.ref o)] [])) _
        refine XS.aloadN X1893.here hx rfl (own_hb hby d9_20) rfl rfl ?_
        show Steps p.tables e below (T1893.setTop (mkF m 21 #[.val (.ref o)] [(.ref o)])) _
        refine XS.iconst X1893.here hx rfl (own_hb hby d9_21) ?_
        exact kt
      obtain ⟨T1978, h1978, X1978, e1978, W1978, st1978⟩ := putF X1893 hx hZ hown (host := "") (Or.inl (hw _ (List.mem_of_getElem? (i := 30) rfl))) Via.refl e1893 hF3 hE (Or.inl (hw _ (List.mem_of_getElem? (i := 31) rfl))) (hw _ (List.mem_of_getElem? (i := 2) rfl)) (ty := .int) (by decide) rfl rfl (g := (mkF m 22 #[.val (.ref o)] [(.int (0 : Int32)), (.ref o)])) rfl rfl (own_hb hby d9_22)
      refine own_Go.of (S' := (T1978.setTop (mkF m 25 #[.val (.ref o)] []))) st1978 ?_
      have kx1979 : own_Kx h0 h1978 x := kx0.wr W1978 hn4
      have f1980 : own_Lt h1978 x := pr1.wr W1978
      have f1981 : Exa Z h1978 o "com/example/quayside/quayside/Row" := hE.wr W1978
      have f1982 : Fld Z h1978 o "com/example/quayside/quayside/Row" "starts" "[I" (.ref rs) := hF1.other W1978 (Or.inr (slot_ne (Or.inl (hw _ (List.mem_of_getElem? (i := 15) rfl))) (Or.inl (hw _ (List.mem_of_getElem? (i := 31) rfl))) (by decide) (t := (.array .int)) (t' := .int) (by decide) (by decide)))
      have f1983 : Fld Z h1978 o "com/example/quayside/quayside/Row" "ends" "[I" (.ref re) := hF2.other W1978 (Or.inr (slot_ne (Or.inl (hw _ (List.mem_of_getElem? (i := 17) rfl))) (Or.inl (hw _ (List.mem_of_getElem? (i := 31) rfl))) (by decide) (t := (.array .int)) (t' := .int) (by decide) (by decide)))
      have f1984 : Fld Z h1978 o "com/example/quayside/quayside/Row" "reach" "I" (.int r) := hF4.other W1978 (Or.inr (slot_ne (Or.inl (hw _ (List.mem_of_getElem? (i := 33) rfl))) (Or.inl (hw _ (List.mem_of_getElem? (i := 31) rfl))) (by decide) (t := .int) (t' := .int) (by decide) (by decide)))
      have f1985 : Fld Z h1978 o "com/example/quayside/quayside/Row" "text" "Z" (.int tx) := hF5.other W1978 (Or.inr (slot_ne (Or.inl (hw _ (List.mem_of_getElem? (i := 39) rfl))) (Or.inl (hw _ (List.mem_of_getElem? (i := 31) rfl))) (by decide) (t := .boolean) (t' := .int) (by decide) (by decide)))
      have f1986 : Fld Z h1978 o "com/example/quayside/quayside/Row" "bytes" "[B" (.ref bs) := hF6.other W1978 (Or.inr (slot_ne (Or.inl (hw _ (List.mem_of_getElem? (i := 12) rfl))) (Or.inl (hw _ (List.mem_of_getElem? (i := 31) rfl))) (by decide) (t := (.array .byte)) (t' := .int) (by decide) (by decide)))
      have f1987 : own_Ar Z h1978 rs .int cap (own_I gs) := hA1.other W1978 (Ne.symm hn1)
      have f1988 : own_Ar Z h1978 re .int cap (own_I ge) := hA2.other W1978 (Ne.symm hn2)
      have f1989 : Fld Z h1978 o "com/example/quayside/quayside/Row" "nulls" "[Z" (.ref rn) := hm1.other W1978 (Or.inr (slot_ne (Or.inl (hw _ (List.mem_of_getElem? (i := 65) rfl))) (Or.inl (hw _ (List.mem_of_getElem? (i := 31) rfl))) (by decide) (t := (.array .boolean)) (t' := .int) (by decide) (by decide)))
      have f1990 : Fld Z h1978 o "com/example/quayside/quayside/Row" "nullCount" "I" (.int (Int32.ofNat c')) := hm2.other W1978 (Or.inr (slot_ne (Or.inl (hw _ (List.mem_of_getElem? (i := 52) rfl))) (Or.inl (hw _ (List.mem_of_getElem? (i := 31) rfl))) (by decide) (t := .int) (t' := .int) (by decide) (by decide)))
      have f1991 : own_Ar Z h1978 rn .boolean mn (own_I g) := hA3.other W1978 (Ne.symm hn7)
      have z1992 : n0 ≤ h1978.size := Nat.le_trans Z0 (Keep.of_wr W1978).1
      have f1993 : Fld Z h1978 o "com/example/quayside/quayside/Row" "size" "I" (.int (0 : Int32)) := hF3.same W1978
      have N1978 := Fr.snoc X1978 N0 hg1
      refine own_Go.of (S' := (T1978.setTop (mkF m 27 #[.val (.ref o)] [(.int (0 : Int32)), (.ref o)]))) (fun t kt => ?_) ?_
      · show Steps p.tables e below (T1978.setTop (mkF m 25 #[.val (.ref o)] [])) _
        refine XS.aloadN X1978.here hx rfl (own_hb hby d9_25) rfl rfl ?_
        show Steps p.tables e below (T1978.setTop (mkF m 26 #[.val (.ref o)] [(.ref o)])) _
        refine XS.iconst X1978.here hx rfl (own_hb hby d9_26) ?_
        exact kt
      obtain ⟨T1994, h1994, X1994, e1994, W1994, st1994⟩ := putF X1978 hx hZ hown (host := "") (Or.inl (hw _ (List.mem_of_getElem? (i := 32) rfl))) Via.refl e1978 f1984 f1981 (Or.inl (hw _ (List.mem_of_getElem? (i := 33) rfl))) (hw _ (List.mem_of_getElem? (i := 2) rfl)) (ty := .int) (by decide) rfl rfl (g := (mkF m 27 #[.val (.ref o)] [(.int (0 : Int32)), (.ref o)])) rfl rfl (own_hb hby d9_27)
      refine own_Go.of (S' := (T1994.setTop (mkF m 30 #[.val (.ref o)] []))) st1994 ?_
      have kx1995 : own_Kx h0 h1994 x := kx1979.wr W1994 hn4
      have f1996 : own_Lt h1994 x := f1980.wr W1994
      have f1997 : Exa Z h1994 o "com/example/quayside/quayside/Row" := f1981.wr W1994
      have f1998 : Fld Z h1994 o "com/example/quayside/quayside/Row" "starts" "[I" (.ref rs) := f1982.other W1994 (Or.inr (slot_ne (Or.inl (hw _ (List.mem_of_getElem? (i := 15) rfl))) (Or.inl (hw _ (List.mem_of_getElem? (i := 33) rfl))) (by decide) (t := (.array .int)) (t' := .int) (by decide) (by decide)))
      have f1999 : Fld Z h1994 o "com/example/quayside/quayside/Row" "ends" "[I" (.ref re) := f1983.other W1994 (Or.inr (slot_ne (Or.inl (hw _ (List.mem_of_getElem? (i := 17) rfl))) (Or.inl (hw _ (List.mem_of_getElem? (i := 33) rfl))) (by decide) (t := (.array .int)) (t' := .int) (by decide) (by decide)))
      have f2000 : Fld Z h1994 o "com/example/quayside/quayside/Row" "size" "I" (.int (0 : Int32)) := f1993.other W1994 (Or.inr (slot_ne (Or.inl (hw _ (List.mem_of_getElem? (i := 31) rfl))) (Or.inl (hw _ (List.mem_of_getElem? (i := 33) rfl))) (by decide) (t := .int) (t' := .int) (by decide) (by decide)))
      have f2001 : Fld Z h1994 o "com/example/quayside/quayside/Row" "text" "Z" (.int tx) := f1985.other W1994 (Or.inr (slot_ne (Or.inl (hw _ (List.mem_of_getElem? (i := 39) rfl))) (Or.inl (hw _ (List.mem_of_getElem? (i := 33) rfl))) (by decide) (t := .boolean) (t' := .int) (by decide) (by decide)))
      have f2002 : Fld Z h1994 o "com/example/quayside/quayside/Row" "bytes" "[B" (.ref bs) := f1986.other W1994 (Or.inr (slot_ne (Or.inl (hw _ (List.mem_of_getElem? (i := 12) rfl))) (Or.inl (hw _ (List.mem_of_getElem? (i := 33) rfl))) (by decide) (t := (.array .byte)) (t' := .int) (by decide) (by decide)))
      have f2003 : own_Ar Z h1994 rs .int cap (own_I gs) := f1987.other W1994 (Ne.symm hn1)
      have f2004 : own_Ar Z h1994 re .int cap (own_I ge) := f1988.other W1994 (Ne.symm hn2)
      have f2005 : Fld Z h1994 o "com/example/quayside/quayside/Row" "nulls" "[Z" (.ref rn) := f1989.other W1994 (Or.inr (slot_ne (Or.inl (hw _ (List.mem_of_getElem? (i := 65) rfl))) (Or.inl (hw _ (List.mem_of_getElem? (i := 33) rfl))) (by decide) (t := (.array .boolean)) (t' := .int) (by decide) (by decide)))
      have f2006 : Fld Z h1994 o "com/example/quayside/quayside/Row" "nullCount" "I" (.int (Int32.ofNat c')) := f1990.other W1994 (Or.inr (slot_ne (Or.inl (hw _ (List.mem_of_getElem? (i := 52) rfl))) (Or.inl (hw _ (List.mem_of_getElem? (i := 33) rfl))) (by decide) (t := .int) (t' := .int) (by decide) (by decide)))
      have f2007 : own_Ar Z h1994 rn .boolean mn (own_I g) := f1991.other W1994 (Ne.symm hn7)
      have z2008 : n0 ≤ h1994.size := Nat.le_trans z1992 (Keep.of_wr W1994).1
      have f2009 : Fld Z h1994 o "com/example/quayside/quayside/Row" "reach" "I" (.int (0 : Int32)) := f1984.same W1994
      have N1994 := Fr.snoc X1994 N1978 hg1
      refine own_Go.of (S' := (T1994.setTop (mkF m 32 #[.val (.ref o)] [(.int (0 : Int32)), (.ref o)]))) (fun t kt => ?_) ?_
      · show Steps p.tables e below (T1994.setTop (mkF m 30 #[.val (.ref o)] [])) _
        refine XS.aloadN X1994.here hx rfl (own_hb hby d9_30) rfl rfl ?_
        show Steps p.tables e below (T1994.setTop (mkF m 31 #[.val (.ref o)] [(.ref o)])) _
        refine XS.iconst X1994.here hx rfl (own_hb hby d9_31) ?_
        exact kt
      obtain ⟨T2010, h2010, X2010, e2010, W2010, st2010⟩ := putFN X1994 hx hZ hown (hw _ (List.mem_of_getElem? (i := 38) rfl)) Via.refl e1994 f2001 f1997 (Or.inl (hw _ (List.mem_of_getElem? (i := 39) rfl))) (hw _ (List.mem_of_getElem? (i := 2) rfl)) (ty := .boolean) (v' := (.int (nar .boolean (0 : Int32)))) (by decide) rfl (fits_nar_bool _) (g := (mkF m 32 #[.val (.ref o)] [(.int (0 : Int32)), (.ref o)])) rfl rfl (own_hb hby d9_32)
      refine own_Go.of (S' := (T2010.setTop (mkF m 35 #[.val (.ref o)] []))) st2010 ?_
      have kx2011 : own_Kx h0 h2010 x := kx1995.wr W2010 hn4
      have f2012 : own_Lt h2010 x := f1996.wr W2010
      have f2013 : Exa Z h2010 o "com/example/quayside/quayside/Row" := f1997.wr W2010
      have f2014 : Fld Z h2010 o "com/example/quayside/quayside/Row" "starts" "[I" (.ref rs) := f1998.other W2010 (Or.inr (slot_ne (Or.inl (hw _ (List.mem_of_getElem? (i := 15) rfl))) (Or.inl (hw _ (List.mem_of_getElem? (i := 39) rfl))) (by decide) (t := (.array .int)) (t' := .boolean) (by decide) (by decide)))
      have f2015 : Fld Z h2010 o "com/example/quayside/quayside/Row" "ends" "[I" (.ref re) := f1999.other W2010 (Or.inr (slot_ne (Or.inl (hw _ (List.mem_of_getElem? (i := 17) rfl))) (Or.inl (hw _ (List.mem_of_getElem? (i := 39) rfl))) (by decide) (t := (.array .int)) (t' := .boolean) (by decide) (by decide)))
      have f2016 : Fld Z h2010 o "com/example/quayside/quayside/Row" "size" "I" (.int (0 : Int32)) := f2000.other W2010 (Or.inr (slot_ne (Or.inl (hw _ (List.mem_of_getElem? (i := 31) rfl))) (Or.inl (hw _ (List.mem_of_getElem? (i := 39) rfl))) (by decide) (t := .int) (t' := .boolean) (by decide) (by decide)))
      have f2017 : Fld Z h2010 o "com/example/quayside/quayside/Row" "reach" "I" (.int (0 : Int32)) := f2009.other W2010 (Or.inr (slot_ne (Or.inl (hw _ (List.mem_of_getElem? (i := 33) rfl))) (Or.inl (hw _ (List.mem_of_getElem? (i := 39) rfl))) (by decide) (t := .int) (t' := .boolean) (by decide) (by decide)))
      have f2018 : Fld Z h2010 o "com/example/quayside/quayside/Row" "bytes" "[B" (.ref bs) := f2002.other W2010 (Or.inr (slot_ne (Or.inl (hw _ (List.mem_of_getElem? (i := 12) rfl))) (Or.inl (hw _ (List.mem_of_getElem? (i := 39) rfl))) (by decide) (t := (.array .byte)) (t' := .boolean) (by decide) (by decide)))
      have f2019 : own_Ar Z h2010 rs .int cap (own_I gs) := f2003.other W2010 (Ne.symm hn1)
      have f2020 : own_Ar Z h2010 re .int cap (own_I ge) := f2004.other W2010 (Ne.symm hn2)
      have f2021 : Fld Z h2010 o "com/example/quayside/quayside/Row" "nulls" "[Z" (.ref rn) := f2005.other W2010 (Or.inr (slot_ne (Or.inl (hw _ (List.mem_of_getElem? (i := 65) rfl))) (Or.inl (hw _ (List.mem_of_getElem? (i := 39) rfl))) (by decide) (t := (.array .boolean)) (t' := .boolean) (by decide) (by decide)))
      have f2022 : Fld Z h2010 o "com/example/quayside/quayside/Row" "nullCount" "I" (.int (Int32.ofNat c')) := f2006.other W2010 (Or.inr (slot_ne (Or.inl (hw _ (List.mem_of_getElem? (i := 52) rfl))) (Or.inl (hw _ (List.mem_of_getElem? (i := 39) rfl))) (by decide) (t := .int) (t' := .boolean) (by decide) (by decide)))
      have f2023 : own_Ar Z h2010 rn .boolean mn (own_I g) := f2007.other W2010 (Ne.symm hn7)
      have z2024 : n0 ≤ h2010.size := Nat.le_trans z2008 (Keep.of_wr W2010).1
      have f2025 : Fld Z h2010 o "com/example/quayside/quayside/Row" "text" "Z" (.int (nar .boolean (0 : Int32))) := f2001.same W2010
      have N2010 := Fr.snoc X2010 N1994 hg1
      have f2026 : Fld Z h2010 o "com/example/quayside/quayside/Row" "size" "I" (.int (Int32.ofNat 0)) := f2016
      have f2027 : Fld Z h2010 o "com/example/quayside/quayside/Row" "text" "Z" (.int (0 : Int32)) := f2025
      exact own_retV X2010 hx hlk hret (own_hb hby d9_35) e2010 ⟨rfl, N2010, kx2011, ⟨rs, re, bs, gs, ge, (0 : Int32), (0 : Int32), f2013, f2014, f2015, f2026, f2017, f2027, f2018, f2019, f2020, hg1, hg2, hg3, hn1, hn2, hn3, hn4, hn5, hn6, (Nat.zero_le _), hcap, (fun i hi => absurd hi (Nat.not_lt_zero i)), Or.inr ⟨rn, mn, c', g, f2021, f2022, f2023, hg4, hn7, hn8, hn9, hn10, hmn, hmc, (by omega), (fun i hi => by rw [if_neg (Nat.not_lt_zero i)]; exact hq3 (by omega) i hi), (fun i _ hi => absurd hi (Nat.not_lt_zero i)), hq3⟩⟩⟩ (by decide) (by decide)
theorem d8_0 : decode prog_62_method_10_code 0 = .ok (.aload_n 0, 1) := by decide +kernel
theorem d8_1 : decode prog_62_method_10_code 1 = .ok (.getfield 20, 3) := by decide +kernel
theorem d8_4 : decode prog_62_method_10_code 4 = .ok (.ifCond .le 25, 3) := by decide +kernel
theorem d8_7 : decode prog_62_method_10_code 7 = .ok (.iload_n 1, 1) := by decide +kernel
theorem d8_8 : decode prog_62_method_10_code 8 = .ok (.aload_n 0, 1) := by decide +kernel
theorem d8_9 : decode prog_62_method_10_code 9 = .ok (.getfield 24, 3) := by decide +kernel
theorem d8_12 : decode prog_62_method_10_code 12 = .ok (.arraylength, 1) := by decide +kernel
theorem d8_13 : decode prog_62_method_10_code 13 = .ok (.if_icmp .ge 16, 3) := by decide +kernel
theorem d8_16 : decode prog_62_method_10_code 16 = .ok (.aload_n 0, 1) := by decide +kernel
theorem d8_17 : decode prog_62_method_10_code 17 = .ok (.getfield 24, 3) := by decide +kernel
theorem d8_20 : decode prog_62_method_10_code 20 = .ok (.iload_n 1, 1) := by decide +kernel
theorem d8_21 : decode prog_62_method_10_code 21 = .ok (.baload, 1) := by decide +kernel
theorem d8_22 : decode prog_62_method_10_code 22 = .ok (.ifCond .eq 7, 3) := by decide +kernel
theorem d8_25 : decode prog_62_method_10_code 25 = .ok (.iconst 1, 1) := by decide +kernel
theorem d8_26 : decode prog_62_method_10_code 26 = .ok (.goto 4, 3) := by decide +kernel
theorem d8_29 : decode prog_62_method_10_code 29 = .ok (.iconst 0, 1) := by decide +kernel
theorem d8_30 : decode prog_62_method_10_code 30 = .ok (.ireturn, 1) := by decide +kernel
theorem pn_8 : plainName "com/example/quayside/quayside/Row" = true := by first | (simp [plainName, overriddenIn]; done) | decide +kernel
def Q_rm8 (Z : State) (x : Addr) (o : Addr) (k : Nat) (cap : Nat) (f : Nat → Int32) (i : Nat) (h0 : Heap) (n0 : Nat) (v : Option Value) (h : Heap) (L : List Loc) : Prop := v = some (.int (f i)) ∧ Fr n0 L ∧ h = h0
set_option maxRecDepth 65536 in
set_option maxHeartbeats 40000000 in
theorem rm8 (l : Launch) (Z : State) (a0 : Array Value) (hw : ∀ d ∈ tables_1, d.before a0 Z = true) (ws : List Jvm.Cond) (x : Addr) (o : Addr) (k : Nat) (cap : Nat) (f : Nat → Int32) (i : Nat) (h0 : Heap) (n0 : Nat) (Z0 : n0 ≤ h0.size) (row : own_Row Z h0 n0 x o k cap f) (hi : i < k) :
    own_Met l Z h0 (⟨"com/example/quayside/quayside/Row", "isNull", "(I)Z"⟩ : MethodName) prog_62_method_10_code 2 (some .boolean) ws ({ frames := 0, cells := 0, slots := 0, locals := 0 } : Room) #[(.ref o), (.int (Int32.ofNat i))] (Q_rm8 Z x o k cap f i h0 n0) := by
  refine own_enter (plainFor_of_name pn_8) ?_
  intro p e s m below meth c T0 X0 hx hby hml hret hlk hown hnm hZ e0
  have N0 := Fr.nil n0
  rw [show entryFrame m #[(.ref o), (.int (Int32.ofNat i))] 2 = (mkF m 0 #[.val (.ref o), .val (.int (Int32.ofNat i))] []) from by first | (simp [entryFrame, mkF, argsToLocals, Value.category]; done) | rfl]
  obtain ⟨rs, re, bs, gs, ge, tx, r, hE, hF1, hF2, hF3, hF4, hF5, hF6, hA1, hA2, hg1, hg2, hg3, hn1, hn2, hn3, hn4, hn5, hn6, hkc, hcap, hf01, hN⟩ := row
  rcases hN with ⟨hm1, hm2, hf0⟩ | ⟨rn, mn, c', g, hm1, hm2, hA3, hg4, hn7, hn8, hn9, hn10, hmn, hmc, hck, hq1, hq2, hq3⟩
  · skip
    refine own_Go.of (S' := (T0.setTop (mkF m 1 #[.val (.ref o), .val (.int (Int32.ofNat i))] [(.ref o)]))) (fun t kt => ?_) ?_
    · show Steps p.tables e below (T0.setTop (mkF m 0 #[.val (.ref o), .val (.int (Int32.ofNat i))] [])) _
      refine XS.aloadN X0.here hx rfl (own_hb hby d8_0) rfl rfl ?_
      exact kt
    obtain ⟨T2028, X2028, e2028, st2028⟩ := getF X0 hx hZ hown (host := "") (Or.inl (hw _ (List.mem_of_getElem? (i := 51) rfl))) Via.refl e0 hm2 (g := (mkF m 1 #[.val (.ref o), .val (.int (Int32.ofNat i))] [(.ref o)])) rfl rfl (own_hb hby d8_1)
    refine own_Go.of (S' := (T2028.setTop (mkF m 4 #[.val (.ref o), .val (.int (Int32.ofNat i))] [(.int (0 : Int32))]))) st2028 ?_
    refine own_Go.of (S' := (T2028.setTop (mkF m 30 #[.val (.ref o), .val (.int (Int32.ofNat i))] [(.int (0 : Int32))]))) (fun t kt => ?_) ?_
    · show Steps p.tables e below (T2028.setTop (mkF m 4 #[.val (.ref o), .val (.int (Int32.ofNat i))] [(.int (0 : Int32))])) _
      refine XS.ifYes X2028.here hx rfl (pc0 := 4) (pc' := 29) rfl (own_hb hby d8_4) rfl ((if0 _ _).trans (flt (by decide : ¬ ((0 : Int32) < (0 : Int32)))).2.2.2) (by decide) (by decide) ?_
      show Steps p.tables e below (T2028.setTop (mkF m 29 #[.val (.ref o), .val (.int (Int32.ofNat i))] [])) _
      refine XS.iconst X2028.here hx rfl (own_hb hby d8_29) ?_
      exact kt
    exact own_retN X2028 hx hlk (t := .boolean) hret (by simp) (own_hb hby d8_30) e2028 ⟨by rw [hf0 i hi]; rfl, N0, rfl⟩ (by decide) (by decide)
  · skip
    refine own_Go.of (S' := (T0.setTop (mkF m 1 #[.val (.ref o), .val (.int (Int32.ofNat i))] [(.ref o)]))) (fun t kt => ?_) ?_
    · show Steps p.tables e below (T0.setTop (mkF m 0 #[.val (.ref o), .val (.int (Int32.ofNat i))] [])) _
      refine XS.aloadN X0.here hx rfl (own_hb hby d8_0) rfl rfl ?_
      exact kt
    obtain ⟨T2029, X2029, e2029, st2029⟩ := getF X0 hx hZ hown (host := "") (Or.inl (hw _ (List.mem_of_getElem? (i := 51) rfl))) Via.refl e0 hm2 (g := (mkF m 1 #[.val (.ref o), .val (.int (Int32.ofNat i))] [(.ref o)])) rfl rfl (own_hb hby d8_1)
    refine own_Go.of (S' := (T2029.setTop (mkF m 4 #[.val (.ref o), .val (.int (Int32.ofNat i))] [(.int (Int32.ofNat c'))]))) st2029 ?_
    by_cases hc4_2030 : 0 < c'
    · skip
      refine own_Go.of (S' := (T2029.setTop (mkF m 9 #[.val (.ref o), .val (.int (Int32.ofNat i))] [(.ref o), (.int (Int32.ofNat i))]))) (fun t kt => ?_) ?_
      · show Steps p.tables e below (T2029.setTop (mkF m 4 #[.val (.ref o), .val (.int (Int32.ofNat i))] [(.int (Int32.ofNat c'))])) _
        refine XS.ifNo X2029.here hx rfl (own_hb hby d8_4) rfl ((if0 _ _).trans (tlt ((own_ltN (by omega) (by omega)).mpr hc4_2030)).2.2.2) ?_
        show Steps p.tables e below (T2029.setTop (mkF m 7 #[.val (.ref o), .val (.int (Int32.ofNat i))] [])) _
        refine XS.iloadN X2029.here hx rfl (own_hb hby d8_7) rfl ?_
        show Steps p.tables e below (T2029.setTop (mkF m 8 #[.val (.ref o), .val (.int (Int32.ofNat i))] [(.int (Int32.ofNat i))])) _
        refine XS.aloadN X2029.here hx rfl (own_hb hby d8_8) rfl rfl ?_
        exact kt
      obtain ⟨T2031, X2031, e2031, st2031⟩ := getF X2029 hx hZ hown (host := "") (Or.inl (hw _ (List.mem_of_getElem? (i := 64) rfl))) Via.refl e2029 hm1 (g := (mkF m 9 #[.val (.ref o), .val (.int (Int32.ofNat i))] [(.ref o), (.int (Int32.ofNat i))])) rfl rfl (own_hb hby d8_9)
      refine own_Go.of (S' := (T2031.setTop (mkF m 12 #[.val (.ref o), .val (.int (Int32.ofNat i))] [(.ref rn), (.int (Int32.ofNat i))]))) st2031 ?_
      obtain ⟨cl2032, Ar2032, hln2032⟩ := own_Ar.len hA3
      refine own_Go.of (S' := (T2031.setTop (mkF m 13 #[.val (.ref o), .val (.int (Int32.ofNat i))] [(.int (Int32.ofNat mn)), (.int (Int32.ofNat i))]))) (fun t kt => ?_) ?_
      · show Steps p.tables e below (T2031.setTop (mkF m 12 #[.val (.ref o), .val (.int (Int32.ofNat i))] [(.ref rn), (.int (Int32.ofNat i))])) _
        refine X2031.arraylength hx (by rw [e2031]; exact Ar2032.1) (State.isArrayOf_alike hZ.alike Ar2032.2.1) (g := (mkF m 12 #[.val (.ref o), .val (.int (Int32.ofNat i))] [(.ref rn), (.int (Int32.ofNat i))])) rfl rfl (own_hb hby d8_12) _ ?_
        rw [hln2032]
        exact kt
      by_cases hc13_2033 : i < mn
      · skip
        refine own_Go.of (S' := (T2031.setTop (mkF m 17 #[.val (.ref o), .val (.int (Int32.ofNat i))] [(.ref o)]))) (fun t kt => ?_) ?_
        · show Steps p.tables e below (T2031.setTop (mkF m 13 #[.val (.ref o), .val (.int (Int32.ofNat i))] [(.int (Int32.ofNat mn)), (.int (Int32.ofNat i))])) _
          refine XS.icmpNo X2031.here hx rfl (own_hb hby d8_13) rfl (tlt ((own_ltN (by omega) (by omega)).mpr hc13_2033)).2.1 ?_
          show Steps p.tables e below (T2031.setTop (mkF m 16 #[.val (.ref o), .val (.int (Int32.ofNat i))] [])) _
          refine XS.aloadN X2031.here hx rfl (own_hb hby d8_16) rfl rfl ?_
          exact kt
        obtain ⟨T2034, X2034, e2034, st2034⟩ := getF X2031 hx hZ hown (host := "") (Or.inl (hw _ (List.mem_of_getElem? (i := 64) rfl))) Via.refl e2031 hm1 (g := (mkF m 17 #[.val (.ref o), .val (.int (Int32.ofNat i))] [(.ref o)])) rfl rfl (own_hb hby d8_17)
        refine own_Go.of (S' := (T2034.setTop (mkF m 20 #[.val (.ref o), .val (.int (Int32.ofNat i))] [(.ref rn)]))) st2034 ?_
        refine own_Go.of (S' := (T2034.setTop (mkF m 21 #[.val (.ref o), .val (.int (Int32.ofNat i))] [(.int (Int32.ofNat i)), (.ref rn)]))) (fun t kt => ?_) ?_
        · show Steps p.tables e below (T2034.setTop (mkF m 20 #[.val (.ref o), .val (.int (Int32.ofNat i))] [(.ref rn)])) _
          refine XS.iloadN X2034.here hx rfl (own_hb hby d8_20) rfl ?_
          exact kt
        obtain ⟨cl2035, Ar2035, hin2035, hat2035⟩ := own_Ar.get (j := (Int32.ofNat i)) (k := i) hA3 ⟨rfl, by omega⟩
        refine own_Go.of (S' := (T2034.setTop (mkF m 22 #[.val (.ref o), .val (.int (Int32.ofNat i))] [(.int (g i))]))) (fun t kt => ?_) ?_
        · show Steps p.tables e below (T2034.setTop (mkF m 21 #[.val (.ref o), .val (.int (Int32.ofNat i))] [(.int (Int32.ofNat i)), (.ref rn)])) _
          refine X2034.baloadBooleans hx (j := (Int32.ofNat i)) (v := (.int (g i))) (by rw [e2034]; exact Ar2035.1) (State.isArrayOf_alike hZ.alike Ar2035.2.1) Ar2035.2.2 hin2035 hat2035 (g := (mkF m 21 #[.val (.ref o), .val (.int (Int32.ofNat i))] [(.int (Int32.ofNat i)), (.ref rn)])) rfl rfl (own_hb hby d8_21) _ ?_
          exact kt
        by_cases hc22_2036 : (g i) = (0 : Int32)
        · skip
          refine own_Go.of (S' := (T2034.setTop (mkF m 30 #[.val (.ref o), .val (.int (Int32.ofNat i))] [(.int (0 : Int32))]))) (fun t kt => ?_) ?_
          · show Steps p.tables e below (T2034.setTop (mkF m 22 #[.val (.ref o), .val (.int (Int32.ofNat i))] [(.int (g i))])) _
            refine XS.ifYes X2034.here hx rfl (pc0 := 22) (pc' := 29) rfl (own_hb hby d8_22) rfl ((if0 _ _).trans (teq hc22_2036).1) (by decide) (by decide) ?_
            show Steps p.tables e below (T2034.setTop (mkF m 29 #[.val (.ref o), .val (.int (Int32.ofNat i))] [])) _
            refine XS.iconst X2034.here hx rfl (own_hb hby d8_29) ?_
            exact kt
          exact own_retN X2034 hx hlk (t := .boolean) hret (by simp) (own_hb hby d8_30) e2034 ⟨by rw [show f i = 0 from by have e := hq1 i (by omega); rw [if_pos hi, hc22_2036] at e; exact e.symm]; rfl, N0, rfl⟩ (by decide) (by decide)
        · skip
          refine own_Go.of (S' := (T2034.setTop (mkF m 30 #[.val (.ref o), .val (.int (Int32.ofNat i))] [(.int (1 : Int32))]))) (fun t kt => ?_) ?_
          · show Steps p.tables e below (T2034.setTop (mkF m 22 #[.val (.ref o), .val (.int (Int32.ofNat i))] [(.int (g i))])) _
            refine XS.ifNo X2034.here hx rfl (own_hb hby d8_22) rfl ((if0 _ _).trans (feq hc22_2036).1) ?_
            show Steps p.tables e below (T2034.setTop (mkF m 25 #[.val (.ref o), .val (.int (Int32.ofNat i))] [])) _
            refine XS.iconst X2034.here hx rfl (own_hb hby d8_25) ?_
            show Steps p.tables e below (T2034.setTop (mkF m 26 #[.val (.ref o), .val (.int (Int32.ofNat i))] [(.int (1 : Int32))])) _
            refine XS.goto X2034.here hx rfl (pc0 := 26) (pc' := 30) rfl (own_hb hby d8_26) (by decide) (by decide) ?_
            exact kt
          exact own_retN X2034 hx hlk (t := .boolean) hret (by simp) (own_hb hby d8_30) e2034 ⟨by rw [show f i = 1 from by have e := hq1 i (by omega); rw [if_pos hi] at e; exact (hf01 i hi).resolve_left (fun q => hc22_2036 (e.trans q))]; rfl, N0, rfl⟩ (by decide) (by decide)
      · skip
        refine own_Go.of (S' := (T2031.setTop (mkF m 30 #[.val (.ref o), .val (.int (Int32.ofNat i))] [(.int (0 : Int32))]))) (fun t kt => ?_) ?_
        · show Steps p.tables e below (T2031.setTop (mkF m 13 #[.val (.ref o), .val (.int (Int32.ofNat i))] [(.int (Int32.ofNat mn)), (.int (Int32.ofNat i))])) _
          refine XS.icmpYes X2031.here hx rfl (pc0 := 13) (pc' := 29) rfl (own_hb hby d8_13) rfl (flt (fun q => hc13_2033 ((own_ltN (by omega) (by omega)).mp q))).2.1 (by decide) (by decide) ?_
          show Steps p.tables e below (T2031.setTop (mkF m 29 #[.val (.ref o), .val (.int (Int32.ofNat i))] [])) _
          refine XS.iconst X2031.here hx rfl (own_hb hby d8_29) ?_
          exact kt
        exact own_retN X2031 hx hlk (t := .boolean) hret (by simp) (own_hb hby d8_30) e2031 ⟨by rw [show f i = 0 from hq2 i (by omega) hi]; rfl, N0, rfl⟩ (by decide) (by decide)
    · skip
      refine own_Go.of (S' := (T2029.setTop (mkF m 30 #[.val (.ref o), .val (.int (Int32.ofNat i))] [(.int (0 : Int32))]))) (fun t kt => ?_) ?_
      · show Steps p.tables e below (T2029.setTop (mkF m 4 #[.val (.ref o), .val (.int (Int32.ofNat i))] [(.int (Int32.ofNat c'))])) _
        refine XS.ifYes X2029.here hx rfl (pc0 := 4) (pc' := 29) rfl (own_hb hby d8_4) rfl ((if0 _ _).trans (flt (fun q => hc4_2030 ((own_ltN (by omega) (by omega)).mp q))).2.2.2) (by decide) (by decide) ?_
        show Steps p.tables e below (T2029.setTop (mkF m 29 #[.val (.ref o), .val (.int (Int32.ofNat i))] [])) _
        refine XS.iconst X2029.here hx rfl (own_hb hby d8_29) ?_
        exact kt
      exact own_retN X2029 hx hlk (t := .boolean) hret (by simp) (own_hb hby d8_30) e2029 ⟨by rw [show f i = 0 from (if q : i < mn then by have e := hq1 i q; rw [if_pos hi, hq3 (by omega) i q] at e; exact e.symm else hq2 i (by omega) hi)]; rfl, N0, rfl⟩ (by decide) (by decide)
theorem d3_0 : decode method_2_code 0 = .ok (.iload_n 0, 1) := by decide +kernel
theorem d3_1 : decode method_2_code 1 = .ok (.iload_n 1, 1) := by decide +kernel
theorem d3_2 : decode method_2_code 2 = .ok (.iushr, 1) := by decide +kernel
theorem d3_3 : decode method_2_code 3 = .ok (.iconst 1, 1) := by decide +kernel
theorem d3_4 : decode method_2_code 4 = .ok (.iand, 1) := by decide +kernel
theorem d3_5 : decode method_2_code 5 = .ok (.ifCond .eq 7, 3) := by decide +kernel
theorem d3_8 : decode method_2_code 8 = .ok (.iconst 1, 1) := by decide +kernel
theorem d3_9 : decode method_2_code 9 = .ok (.goto 4, 3) := by decide +kernel
theorem d3_12 : decode method_2_code 12 = .ok (.iconst 0, 1) := by decide +kernel
theorem d3_13 : decode method_2_code 13 = .ok (.ireturn, 1) := by decide +kernel
theorem pn_3 : plainName "com/example/quayside/quayside/RowIsNullPinLaw" = true := by first | (simp [plainName, overriddenIn]; done) | decide +kernel
def Q_rm3 (Z : State) (i : Int32) (j : Int32) (h0 : Heap) (n0 : Nat) (v : Option Value) (h : Heap) (L : List Loc) : Prop := v = some (.int (own_bit i j)) ∧ Fr n0 L ∧ h = h0
set_option maxRecDepth 65536 in
set_option maxHeartbeats 40000000 in
theorem rm3 (l : Launch) (Z : State) (a0 : Array Value) (hw : ∀ d ∈ tables_1, d.before a0 Z = true) (ws : List Jvm.Cond) (i : Int32) (j : Int32) (h0 : Heap) (n0 : Nat) (Z0 : n0 ≤ h0.size)  :
    own_Met l Z h0 (⟨"com/example/quayside/quayside/RowIsNullPinLaw", "bit", "(II)Z"⟩ : MethodName) method_2_code 2 (some .boolean) ws ({ frames := 0, cells := 0, slots := 0, locals := 0 } : Room) #[(.int i), (.int j)] (Q_rm3 Z i j h0 n0) := by
  refine own_enter (plainFor_of_name pn_3) ?_
  intro p e s m below meth c T0 X0 hx hby hml hret hlk hown hnm hZ e0
  have N0 := Fr.nil n0
  rw [show entryFrame m #[(.int i), (.int j)] 2 = (mkF m 0 #[.val (.int i), .val (.int j)] []) from by first | (simp [entryFrame, mkF, argsToLocals, Value.category]; done) | rfl]
  refine own_Go.of (S' := (T0.setTop (mkF m 5 #[.val (.int i), .val (.int j)] [(.int (((i.toUInt32 >>> (j &&& 31).toUInt32).toInt32) &&& (1 : Int32)))]))) (fun t kt => ?_) ?_
  · show Steps p.tables e below (T0.setTop (mkF m 0 #[.val (.int i), .val (.int j)] [])) _
    refine XS.iloadN X0.here hx rfl (own_hb hby d3_0) rfl ?_
    show Steps p.tables e below (T0.setTop (mkF m 1 #[.val (.int i), .val (.int j)] [(.int i)])) _
    refine XS.iloadN X0.here hx rfl (own_hb hby d3_1) rfl ?_
    show Steps p.tables e below (T0.setTop (mkF m 2 #[.val (.int i), .val (.int j)] [(.int j), (.int i)])) _
    refine XS.iushr X0.here hx rfl (own_hb hby d3_2) rfl ?_
    show Steps p.tables e below (T0.setTop (mkF m 3 #[.val (.int i), .val (.int j)] [(.int ((i.toUInt32 >>> (j &&& 31).toUInt32).toInt32))])) _
    refine XS.iconst X0.here hx rfl (own_hb hby d3_3) ?_
    show Steps p.tables e below (T0.setTop (mkF m 4 #[.val (.int i), .val (.int j)] [(.int (1 : Int32)), (.int ((i.toUInt32 >>> (j &&& 31).toUInt32).toInt32))])) _
    refine XS.iand X0.here hx rfl (own_hb hby d3_4) rfl ?_
    exact kt
  by_cases hc5_2037 : (((i.toUInt32 >>> (j &&& 31).toUInt32).toInt32) &&& (1 : Int32)) = (0 : Int32)
  · skip
    refine own_Go.of (S' := (T0.setTop (mkF m 13 #[.val (.int i), .val (.int j)] [(.int (0 : Int32))]))) (fun t kt => ?_) ?_
    · show Steps p.tables e below (T0.setTop (mkF m 5 #[.val (.int i), .val (.int j)] [(.int (((i.toUInt32 >>> (j &&& 31).toUInt32).toInt32) &&& (1 : Int32)))])) _
      refine XS.ifYes X0.here hx rfl (pc0 := 5) (pc' := 12) rfl (own_hb hby d3_5) rfl ((if0 _ _).trans (teq hc5_2037).1) (by decide) (by decide) ?_
      show Steps p.tables e below (T0.setTop (mkF m 12 #[.val (.int i), .val (.int j)] [])) _
      refine XS.iconst X0.here hx rfl (own_hb hby d3_12) ?_
      exact kt
    exact own_retN X0 hx hlk (t := .boolean) hret (by simp) (own_hb hby d3_13) e0 ⟨by unfold own_bit; rw [if_pos hc5_2037]; rfl, N0, rfl⟩ (by decide) (by decide)
  · skip
    refine own_Go.of (S' := (T0.setTop (mkF m 13 #[.val (.int i), .val (.int j)] [(.int (1 : Int32))]))) (fun t kt => ?_) ?_
    · show Steps p.tables e below (T0.setTop (mkF m 5 #[.val (.int i), .val (.int j)] [(.int (((i.toUInt32 >>> (j &&& 31).toUInt32).toInt32) &&& (1 : Int32)))])) _
      refine XS.ifNo X0.here hx rfl (own_hb hby d3_5) rfl ((if0 _ _).trans (feq hc5_2037).1) ?_
      show Steps p.tables e below (T0.setTop (mkF m 8 #[.val (.int i), .val (.int j)] [])) _
      refine XS.iconst X0.here hx rfl (own_hb hby d3_8) ?_
      show Steps p.tables e below (T0.setTop (mkF m 9 #[.val (.int i), .val (.int j)] [(.int (1 : Int32))])) _
      refine XS.goto X0.here hx rfl (pc0 := 9) (pc' := 13) rfl (own_hb hby d3_9) (by decide) (by decide) ?_
      exact kt
    exact own_retN X0 hx hlk (t := .boolean) hret (by simp) (own_hb hby d3_13) e0 ⟨by unfold own_bit; rw [if_neg hc5_2037]; rfl, N0, rfl⟩ (by decide) (by decide)
theorem d4_0 : decode method_3_code 0 = .ok (.iload_n 3, 1) := by decide +kernel
theorem d4_1 : decode method_3_code 1 = .ok (.ifCond .eq 10, 3) := by decide +kernel
theorem d4_4 : decode method_3_code 4 = .ok (.aload_n 0, 1) := by decide +kernel
theorem d4_5 : decode method_3_code 5 = .ok (.invokevirtual 7, 3) := by decide +kernel
theorem d4_8 : decode method_3_code 8 = .ok (.goto 39, 3) := by decide +kernel
theorem d4_11 : decode method_3_code 11 = .ok (.iload 4, 2) := by decide +kernel
theorem d4_13 : decode method_3_code 13 = .ok (.iconst 2, 1) := by decide +kernel
theorem d4_14 : decode method_3_code 14 = .ok (.iload 5, 2) := by decide +kernel
theorem d4_16 : decode method_3_code 16 = .ok (.imul, 1) := by decide +kernel
theorem d4_17 : decode method_3_code 17 = .ok (.iushr, 1) := by decide +kernel
theorem d4_18 : decode method_3_code 18 = .ok (.iconst 3, 1) := by decide +kernel
theorem d4_19 : decode method_3_code 19 = .ok (.iand, 1) := by decide +kernel
theorem d4_20 : decode method_3_code 20 = .ok (.istore 6, 2) := by decide +kernel
theorem d4_22 : decode method_3_code 22 = .ok (.iload 4, 2) := by decide +kernel
theorem d4_24 : decode method_3_code 24 = .ok (.iconst 2, 1) := by decide +kernel
theorem d4_25 : decode method_3_code 25 = .ok (.iload 5, 2) := by decide +kernel
theorem d4_27 : decode method_3_code 27 = .ok (.imul, 1) := by decide +kernel
theorem d4_28 : decode method_3_code 28 = .ok (.bipush 16, 2) := by decide +kernel
theorem d4_30 : decode method_3_code 30 = .ok (.iadd, 1) := by decide +kernel
theorem d4_31 : decode method_3_code 31 = .ok (.iushr, 1) := by decide +kernel
theorem d4_32 : decode method_3_code 32 = .ok (.iconst 1, 1) := by decide +kernel
theorem d4_33 : decode method_3_code 33 = .ok (.iand, 1) := by decide +kernel
theorem d4_34 : decode method_3_code 34 = .ok (.istore 7, 2) := by decide +kernel
theorem d4_36 : decode method_3_code 36 = .ok (.aload_n 0, 1) := by decide +kernel
theorem d4_37 : decode method_3_code 37 = .ok (.iload 6, 2) := by decide +kernel
theorem d4_39 : decode method_3_code 39 = .ok (.iload 6, 2) := by decide +kernel
theorem d4_41 : decode method_3_code 41 = .ok (.iload 7, 2) := by decide +kernel
theorem d4_43 : decode method_3_code 43 = .ok (.iadd, 1) := by decide +kernel
theorem d4_44 : decode method_3_code 44 = .ok (.invokevirtual 12, 3) := by decide +kernel
theorem d4_47 : decode method_3_code 47 = .ok (.aload_n 1, 1) := by decide +kernel
theorem d4_48 : decode method_3_code 48 = .ok (.iload_n 2, 1) := by decide +kernel
theorem d4_49 : decode method_3_code 49 = .ok (.iload_n 3, 1) := by decide +kernel
theorem d4_50 : decode method_3_code 50 = .ok (.bastore, 1) := by decide +kernel
theorem d4_51 : decode method_3_code 51 = .ok (.iload_n 2, 1) := by decide +kernel
theorem d4_52 : decode method_3_code 52 = .ok (.iconst 1, 1) := by decide +kernel
theorem d4_53 : decode method_3_code 53 = .ok (.iadd, 1) := by decide +kernel
theorem d4_54 : decode method_3_code 54 = .ok (.ireturn, 1) := by decide +kernel
theorem pn_4 : plainName "com/example/quayside/quayside/RowIsNullPinLaw" = true := by first | (simp [plainName, overriddenIn]; done) | decide +kernel
theorem pd_5 : parseMethodDescriptor "()V" = some ⟨[], none⟩ := by decide +kernel
def Q_rm4s (Z : State) (o : Addr) (x : Addr) (k : Nat) (b : Int32) (pl : Int32) (q : Int32) (cap : Nat) (f : Nat → Int32) (h0 : Heap) (n0 : Nat) (v : Option Value) (h : Heap) (L : List Loc) : Prop := v = some (.int (Int32.ofNat (k + 1))) ∧ Fr n0 L ∧ h0.size ≤ h.size ∧ (own_Row Z h n0 x o (k + 1) cap (own_set f k b)) ∧ (own_Ar Z h x .boolean 7 (own_I (own_set f k b)))
set_option maxRecDepth 65536 in
set_option maxHeartbeats 40000000 in
theorem rm4s (l : Launch) (Z : State) (a0 : Array Value) (hw : ∀ d ∈ tables_1, d.before a0 Z = true) (ws : List Jvm.Cond) (o : Addr) (x : Addr) (k : Nat) (b : Int32) (pl : Int32) (q : Int32) (cap : Nat) (f : Nat → Int32) (h0 : Heap) (n0 : Nat) (Z0 : n0 ≤ h0.size) (row : own_Row Z h0 n0 x o k cap f) (pr1 : own_Ar Z h0 x .boolean 7 (own_I f)) (pr2 : n0 ≤ x) (hb01 : b = 0 ∨ b = 1) (hk : k < cap) (hk7 : k < 7) :
    own_Met l Z h0 (⟨"com/example/quayside/quayside/RowIsNullPinLaw", "put", "(Lcom/example/quayside/quayside/Row;[ZIZII)I"⟩ : MethodName) method_3_code 8 (some .int) ws ({ frames := 3, cells := 2, slots := 8, locals := 45 } : Room) #[(.ref o), (.ref x), (.int (Int32.ofNat k)), (.int b), (.int pl), (.int q)] (Q_rm4s Z o x k b pl q cap f h0 n0) := by
  refine own_enter (plainFor_of_name pn_4) ?_
  intro p e s m below meth c T0 X0 hx hby hml hret hlk hown hnm hZ e0
  have N0 := Fr.nil n0
  have ks0 : h0.size ≤ h0.size := Nat.le_refl _
  rw [show entryFrame m #[(.ref o), (.ref x), (.int (Int32.ofNat k)), (.int b), (.int pl), (.int q)] 8 = (mkF m 0 #[.val (.ref o), .val (.ref x), .val (.int (Int32.ofNat k)), .val (.int b), .val (.int pl), .val (.int q), .unset, .unset] []) from by first | (simp [entryFrame, mkF, argsToLocals, Value.category]; done) | rfl]
  have hLx : own_Lt h0 x := pr1.lt
  rcases hb01 with rfl | rfl
  · skip
    refine own_Go.of (S' := (T0.setTop (mkF m 20 #[.val (.ref o), .val (.ref x), .val (.int (Int32.ofNat k)), .val (.int (0 : Int32)), .val (.int pl), .val (.int q), .unset, .unset] [(.int (((pl.toUInt32 >>> (((2 : Int32) * q) &&& 31).toUInt32).toInt32) &&& (3 : Int32)))]))) (fun t kt => ?_) ?_
    · show Steps p.tables e below (T0.setTop (mkF m 0 #[.val (.ref o), .val (.ref x), .val (.int (Int32.ofNat k)), .val (.int (0 : Int32)), .val (.int pl), .val (.int q), .unset, .unset] [])) _
      refine XS.iloadN X0.here hx rfl (own_hb hby d4_0) rfl ?_
      show Steps p.tables e below (T0.setTop (mkF m 1 #[.val (.ref o), .val (.ref x), .val (.int (Int32.ofNat k)), .val (.int (0 : Int32)), .val (.int pl), .val (.int q), .unset, .unset] [(.int (0 : Int32))])) _
      refine XS.ifYes X0.here hx rfl (pc0 := 1) (pc' := 11) rfl (own_hb hby d4_1) rfl ((if0 _ _).trans (teq (rfl : (0 : Int32) = (0 : Int32))).1) (by decide) (by decide) ?_
      show Steps p.tables e below (T0.setTop (mkF m 11 #[.val (.ref o), .val (.ref x), .val (.int (Int32.ofNat k)), .val (.int (0 : Int32)), .val (.int pl), .val (.int q), .unset, .unset] [])) _
      refine XS.iload X0.here hx rfl (own_hb hby d4_11) rfl ?_
      show Steps p.tables e below (T0.setTop (mkF m 13 #[.val (.ref o), .val (.ref x), .val (.int (Int32.ofNat k)), .val (.int (0 : Int32)), .val (.int pl), .val (.int q), .unset, .unset] [(.int pl)])) _
      refine XS.iconst X0.here hx rfl (own_hb hby d4_13) ?_
      show Steps p.tables e below (T0.setTop (mkF m 14 #[.val (.ref o), .val (.ref x), .val (.int (Int32.ofNat k)), .val (.int (0 : Int32)), .val (.int pl), .val (.int q), .unset, .unset] [(.int (2 : Int32)), (.int pl)])) _
      refine XS.iload X0.here hx rfl (own_hb hby d4_14) rfl ?_
      show Steps p.tables e below (T0.setTop (mkF m 16 #[.val (.ref o), .val (.ref x), .val (.int (Int32.ofNat k)), .val (.int (0 : Int32)), .val (.int pl), .val (.int q), .unset, .unset] [(.int q), (.int (2 : Int32)), (.int pl)])) _
      refine XS.imul X0.here hx rfl (own_hb hby d4_16) rfl ?_
      show Steps p.tables e below (T0.setTop (mkF m 17 #[.val (.ref o), .val (.ref x), .val (.int (Int32.ofNat k)), .val (.int (0 : Int32)), .val (.int pl), .val (.int q), .unset, .unset] [(.int ((2 : Int32) * q)), (.int pl)])) _
      refine XS.iushr X0.here hx rfl (own_hb hby d4_17) rfl ?_
      show Steps p.tables e below (T0.setTop (mkF m 18 #[.val (.ref o), .val (.ref x), .val (.int (Int32.ofNat k)), .val (.int (0 : Int32)), .val (.int pl), .val (.int q), .unset, .unset] [(.int ((pl.toUInt32 >>> (((2 : Int32) * q) &&& 31).toUInt32).toInt32))])) _
      refine XS.iconst X0.here hx rfl (own_hb hby d4_18) ?_
      show Steps p.tables e below (T0.setTop (mkF m 19 #[.val (.ref o), .val (.ref x), .val (.int (Int32.ofNat k)), .val (.int (0 : Int32)), .val (.int pl), .val (.int q), .unset, .unset] [(.int (3 : Int32)), (.int ((pl.toUInt32 >>> (((2 : Int32) * q) &&& 31).toUInt32).toInt32))])) _
      refine XS.iand X0.here hx rfl (own_hb hby d4_19) rfl ?_
      exact kt
    obtain ⟨st, hst, est⟩ : ∃ n : Nat, n ≤ 3 ∧ (((pl.toUInt32 >>> (((2 : Int32) * q) &&& 31).toUInt32).toInt32) &&& (3 : Int32)) = Int32.ofNat n := own_mask _ 3
    refine own_Go.of (S' := (T0.setTop (mkF m 34 #[.val (.ref o), .val (.ref x), .val (.int (Int32.ofNat k)), .val (.int (0 : Int32)), .val (.int pl), .val (.int q), .val (.int (Int32.ofNat st)), .unset] [(.int (((pl.toUInt32 >>> ((((2 : Int32) * q) + (16 : Int32)) &&& 31).toUInt32).toInt32) &&& (1 : Int32)))]))) (fun t kt => ?_) ?_
    · show Steps p.tables e below (T0.setTop (mkF m 20 #[.val (.ref o), .val (.ref x), .val (.int (Int32.ofNat k)), .val (.int (0 : Int32)), .val (.int pl), .val (.int q), .unset, .unset] [(.int (((pl.toUInt32 >>> (((2 : Int32) * q) &&& 31).toUInt32).toInt32) &&& (3 : Int32)))])) _
      rw [est]
      show Steps p.tables e below (T0.setTop (mkF m 20 #[.val (.ref o), .val (.ref x), .val (.int (Int32.ofNat k)), .val (.int (0 : Int32)), .val (.int pl), .val (.int q), .unset, .unset] [(.int (Int32.ofNat st))])) _
      refine XS.istore X0.here hx rfl (own_hb hby d4_20) rfl (l' := #[.val (.ref o), .val (.ref x), .val (.int (Int32.ofNat k)), .val (.int (0 : Int32)), .val (.int pl), .val (.int q), .val (.int (Int32.ofNat st)), .unset]) rfl ?_
      show Steps p.tables e below (T0.setTop (mkF m 22 #[.val (.ref o), .val (.ref x), .val (.int (Int32.ofNat k)), .val (.int (0 : Int32)), .val (.int pl), .val (.int q), .val (.int (Int32.ofNat st)), .unset] [])) _
      refine XS.iload X0.here hx rfl (own_hb hby d4_22) rfl ?_
      show Steps p.tables e below (T0.setTop (mkF m 24 #[.val (.ref o), .val (.ref x), .val (.int (Int32.ofNat k)), .val (.int (0 : Int32)), .val (.int pl), .val (.int q), .val (.int (Int32.ofNat st)), .unset] [(.int pl)])) _
      refine XS.iconst X0.here hx rfl (own_hb hby d4_24) ?_
      show Steps p.tables e below (T0.setTop (mkF m 25 #[.val (.ref o), .val (.ref x), .val (.int (Int32.ofNat k)), .val (.int (0 : Int32)), .val (.int pl), .val (.int q), .val (.int (Int32.ofNat st)), .unset] [(.int (2 : Int32)), (.int pl)])) _
      refine XS.iload X0.here hx rfl (own_hb hby d4_25) rfl ?_
      show Steps p.tables e below (T0.setTop (mkF m 27 #[.val (.ref o), .val (.ref x), .val (.int (Int32.ofNat k)), .val (.int (0 : Int32)), .val (.int pl), .val (.int q), .val (.int (Int32.ofNat st)), .unset] [(.int q), (.int (2 : Int32)), (.int pl)])) _
      refine XS.imul X0.here hx rfl (own_hb hby d4_27) rfl ?_
      show Steps p.tables e below (T0.setTop (mkF m 28 #[.val (.ref o), .val (.ref x), .val (.int (Int32.ofNat k)), .val (.int (0 : Int32)), .val (.int pl), .val (.int q), .val (.int (Int32.ofNat st)), .unset] [(.int ((2 : Int32) * q)), (.int pl)])) _
      refine XS.bipush X0.here hx rfl (own_hb hby d4_28) ?_
      show Steps p.tables e below (T0.setTop (mkF m 30 #[.val (.ref o), .val (.ref x), .val (.int (Int32.ofNat k)), .val (.int (0 : Int32)), .val (.int pl), .val (.int q), .val (.int (Int32.ofNat st)), .unset] [(.int (16 : Int32)), (.int ((2 : Int32) * q)), (.int pl)])) _
      refine XS.iadd X0.here hx rfl (own_hb hby d4_30) rfl ?_
      show Steps p.tables e below (T0.setTop (mkF m 31 #[.val (.ref o), .val (.ref x), .val (.int (Int32.ofNat k)), .val (.int (0 : Int32)), .val (.int pl), .val (.int q), .val (.int (Int32.ofNat st)), .unset] [(.int (((2 : Int32) * q) + (16 : Int32))), (.int pl)])) _
      refine XS.iushr X0.here hx rfl (own_hb hby d4_31) rfl ?_
      show Steps p.tables e below (T0.setTop (mkF m 32 #[.val (.ref o), .val (.ref x), .val (.int (Int32.ofNat k)), .val (.int (0 : Int32)), .val (.int pl), .val (.int q), .val (.int (Int32.ofNat st)), .unset] [(.int ((pl.toUInt32 >>> ((((2 : Int32) * q) + (16 : Int32)) &&& 31).toUInt32).toInt32))])) _
      refine XS.iconst X0.here hx rfl (own_hb hby d4_32) ?_
      show Steps p.tables e below (T0.setTop (mkF m 33 #[.val (.ref o), .val (.ref x), .val (.int (Int32.ofNat k)), .val (.int (0 : Int32)), .val (.int pl), .val (.int q), .val (.int (Int32.ofNat st)), .unset] [(.int (1 : Int32)), (.int ((pl.toUInt32 >>> ((((2 : Int32) * q) + (16 : Int32)) &&& 31).toUInt32).toInt32))])) _
      refine XS.iand X0.here hx rfl (own_hb hby d4_33) rfl ?_
      exact kt
    obtain ⟨ln, hln, eln⟩ : ∃ n : Nat, n ≤ 1 ∧ (((pl.toUInt32 >>> ((((2 : Int32) * q) + (16 : Int32)) &&& 31).toUInt32).toInt32) &&& (1 : Int32)) = Int32.ofNat n := own_mask _ 1
    refine own_Go.of (S' := (T0.setTop (mkF m 44 #[.val (.ref o), .val (.ref x), .val (.int (Int32.ofNat k)), .val (.int (0 : Int32)), .val (.int pl), .val (.int q), .val (.int (Int32.ofNat st)), .val (.int (Int32.ofNat ln))] [(.int (Int32.ofNat (st + ln))), (.int (Int32.ofNat st)), (.ref o)]))) (fun t kt => ?_) ?_
    · show Steps p.tables e below (T0.setTop (mkF m 34 #[.val (.ref o), .val (.ref x), .val (.int (Int32.ofNat k)), .val (.int (0 : Int32)), .val (.int pl), .val (.int q), .val (.int (Int32.ofNat st)), .unset] [(.int (((pl.toUInt32 >>> ((((2 : Int32) * q) + (16 : Int32)) &&& 31).toUInt32).toInt32) &&& (1 : Int32)))])) _
      rw [eln]
      show Steps p.tables e below (T0.setTop (mkF m 34 #[.val (.ref o), .val (.ref x), .val (.int (Int32.ofNat k)), .val (.int (0 : Int32)), .val (.int pl), .val (.int q), .val (.int (Int32.ofNat st)), .unset] [(.int (Int32.ofNat ln))])) _
      refine XS.istore X0.here hx rfl (own_hb hby d4_34) rfl (l' := #[.val (.ref o), .val (.ref x), .val (.int (Int32.ofNat k)), .val (.int (0 : Int32)), .val (.int pl), .val (.int q), .val (.int (Int32.ofNat st)), .val (.int (Int32.ofNat ln))]) rfl ?_
      show Steps p.tables e below (T0.setTop (mkF m 36 #[.val (.ref o), .val (.ref x), .val (.int (Int32.ofNat k)), .val (.int (0 : Int32)), .val (.int pl), .val (.int q), .val (.int (Int32.ofNat st)), .val (.int (Int32.ofNat ln))] [])) _
      refine XS.aloadN X0.here hx rfl (own_hb hby d4_36) rfl rfl ?_
      show Steps p.tables e below (T0.setTop (mkF m 37 #[.val (.ref o), .val (.ref x), .val (.int (Int32.ofNat k)), .val (.int (0 : Int32)), .val (.int pl), .val (.int q), .val (.int (Int32.ofNat st)), .val (.int (Int32.ofNat ln))] [(.ref o)])) _
      refine XS.iload X0.here hx rfl (own_hb hby d4_37) rfl ?_
      show Steps p.tables e below (T0.setTop (mkF m 39 #[.val (.ref o), .val (.ref x), .val (.int (Int32.ofNat k)), .val (.int (0 : Int32)), .val (.int pl), .val (.int q), .val (.int (Int32.ofNat st)), .val (.int (Int32.ofNat ln))] [(.int (Int32.ofNat st)), (.ref o)])) _
      refine XS.iload X0.here hx rfl (own_hb hby d4_39) rfl ?_
      show Steps p.tables e below (T0.setTop (mkF m 41 #[.val (.ref o), .val (.ref x), .val (.int (Int32.ofNat k)), .val (.int (0 : Int32)), .val (.int pl), .val (.int q), .val (.int (Int32.ofNat st)), .val (.int (Int32.ofNat ln))] [(.int (Int32.ofNat st)), (.int (Int32.ofNat st)), (.ref o)])) _
      refine XS.iload X0.here hx rfl (own_hb hby d4_41) rfl ?_
      show Steps p.tables e below (T0.setTop (mkF m 43 #[.val (.ref o), .val (.ref x), .val (.int (Int32.ofNat k)), .val (.int (0 : Int32)), .val (.int pl), .val (.int q), .val (.int (Int32.ofNat st)), .val (.int (Int32.ofNat ln))] [(.int (Int32.ofNat ln)), (.int (Int32.ofNat st)), (.int (Int32.ofNat st)), (.ref o)])) _
      refine XS.iadd X0.here hx rfl (own_hb hby d4_43) rfl ?_
      show Steps p.tables e below (T0.setTop (mkF m 44 #[.val (.ref o), .val (.ref x), .val (.int (Int32.ofNat k)), .val (.int (0 : Int32)), .val (.int pl), .val (.int q), .val (.int (Int32.ofNat st)), .val (.int (Int32.ofNat ln))] [(.int ((Int32.ofNat st) + (Int32.ofNat ln))), (.int (Int32.ofNat st)), (.ref o)])) _
      rw [own_addN st ln]
      exact kt
    obtain ⟨cq2038, kq2038, q2038a, q2038b, q2038c⟩ := isOf hZ e0 row.exa
    obtain ⟨_, _, ⟨T2038, L2038, k2038, n2038⟩, -, X2038, ⟨Lc2038, hQ2038, l2038, y2038, z2038⟩, st2038⟩ := X0.virtualBack hx (y := (⟨"com/example/quayside/quayside/Row", "add", "(II)V"⟩ : MethodName)) (z := (⟨"com/example/quayside/quayside/Row", "add", "(II)V"⟩ : MethodName)) hown (mvT hZ (hw _ (List.mem_of_getElem? (i := 25) rfl))) (mvT hZ (hw _ (List.mem_of_getElem? (i := 26) rfl))) (notFace_of_selects (args := #[]) (mvT hZ (hw _ (List.mem_of_getElem? (i := 28) rfl)))) (mvT hZ (hw _ (List.mem_of_getElem? (i := 28) rfl))) (mvT hZ (hw _ (List.mem_of_getElem? (i := 27) rfl))) (by decide) (backOf (W := 0) (rm5ps l Z a0 hw [] x o st (Int32.ofNat (st + ln)) k cap f h0 n0 Z0 row hk (by omega) (fun q => by have h2 := (own_ltN (by omega) (by omega)).mp q; omega) hLx) hZ (hw _ (List.mem_of_getElem? (i := 29) rfl)) (hw _ (List.mem_of_getElem? (i := 3) rfl)) (by decide) (by decide)) q2038a q2038c (g := (mkF m 44 #[.val (.ref o), .val (.ref x), .val (.int (Int32.ofNat k)), .val (.int (0 : Int32)), .val (.int pl), .val (.int q), .val (.int (Int32.ofNat st)), .val (.int (Int32.ofNat ln))] [(.int (Int32.ofNat (st + ln))), (.int (Int32.ofNat st)), (.ref o)])) rfl (by rw [hml]; rfl) (Steps.refl _) (argsL := [(.int (Int32.ofNat st)), (.int (Int32.ofNat (st + ln)))]) (rest := []) (lenOf pd_2 rfl) rfl (by show 2 * 0 + _ ≤ _; exact Nat.le_of_eq rfl) (own_hb hby d4_44) (fun _ _ => ⟨rfl, e0, (by decide : 0 + 0 ≤ _), (by decide : 0 + 0 ≤ _)⟩)
    dsimp only [Pt.U, Pt.locs, Pt.cells, Pt.slots] at X2038 l2038 y2038 z2038 st2038 hQ2038
    subst l2038 y2038 z2038
    obtain ⟨rfl, N2038q, K2038, p2038_0⟩ := hQ2038
    have N2038 := Fr.app N0 N2038q
    refine own_Go.of (S' := (T2038.setTop (mkF m 47 #[.val (.ref o), .val (.ref x), .val (.int (Int32.ofNat k)), .val (.int (0 : Int32)), .val (.int pl), .val (.int q), .val (.int (Int32.ofNat st)), .val (.int (Int32.ofNat ln))] []))) (fun t kt => st2038.trans kt) ?_
    have ks2039 : h0.size ≤ T2038.heap.size := Nat.le_trans ks0 K2038.1
    have f2040 : own_Ar Z T2038.heap x .boolean 7 (own_I f) := pr1.kx K2038
    have f2041 : own_Lt T2038.heap x := hLx.kx K2038
    have z2042 : n0 ≤ T2038.heap.size := Nat.le_trans Z0 K2038.1
    refine own_Go.of (S' := (T2038.setTop (mkF m 50 #[.val (.ref o), .val (.ref x), .val (.int (Int32.ofNat k)), .val (.int (0 : Int32)), .val (.int pl), .val (.int q), .val (.int (Int32.ofNat st)), .val (.int (Int32.ofNat ln))] [(.int (0 : Int32)), (.int (Int32.ofNat k)), (.ref x)]))) (fun t kt => ?_) ?_
    · show Steps p.tables e below (T2038.setTop (mkF m 47 #[.val (.ref o), .val (.ref x), .val (.int (Int32.ofNat k)), .val (.int (0 : Int32)), .val (.int pl), .val (.int q), .val (.int (Int32.ofNat st)), .val (.int (Int32.ofNat ln))] [])) _
      refine XS.aloadN X2038.here hx rfl (own_hb hby d4_47) rfl rfl ?_
      show Steps p.tables e below (T2038.setTop (mkF m 48 #[.val (.ref o), .val (.ref x), .val (.int (Int32.ofNat k)), .val (.int (0 : Int32)), .val (.int pl), .val (.int q), .val (.int (Int32.ofNat st)), .val (.int (Int32.ofNat ln))] [(.ref x)])) _
      refine XS.iloadN X2038.here hx rfl (own_hb hby d4_48) rfl ?_
      show Steps p.tables e below (T2038.setTop (mkF m 49 #[.val (.ref o), .val (.ref x), .val (.int (Int32.ofNat k)), .val (.int (0 : Int32)), .val (.int pl), .val (.int q), .val (.int (Int32.ofNat st)), .val (.int (Int32.ofNat ln))] [(.int (Int32.ofNat k)), (.ref x)])) _
      refine XS.iloadN X2038.here hx rfl (own_hb hby d4_49) rfl ?_
      exact kt
    obtain ⟨cl2043, Ar2043, hin2043, ub2043⟩ := own_Ar.put (j := (Int32.ofNat k)) (k := k) f2040 ⟨rfl, hk7⟩
    obtain ⟨T2043, h2043, X2043, e2043, W2043, st2043⟩ := stZ X2038 hx hZ rfl Ar2043 (j := (Int32.ofNat k)) hin2043 (g := (mkF m 50 #[.val (.ref o), .val (.ref x), .val (.int (Int32.ofNat k)), .val (.int (0 : Int32)), .val (.int pl), .val (.int q), .val (.int (Int32.ofNat st)), .val (.int (Int32.ofNat ln))] [(.int (0 : Int32)), (.int (Int32.ofNat k)), (.ref x)])) rfl rfl (own_hb hby d4_50)
    refine own_Go.of (S' := (T2043.setTop (mkF m 51 #[.val (.ref o), .val (.ref x), .val (.int (Int32.ofNat k)), .val (.int (0 : Int32)), .val (.int pl), .val (.int q), .val (.int (Int32.ofNat st)), .val (.int (Int32.ofNat ln))] []))) st2043 ?_
    have ks2044 : h0.size ≤ h2043.size := Nat.le_trans ks2039 (Keep.of_wr W2043).1
    have f2045 : own_Lt h2043 x := f2041.wr W2043
    have z2046 : n0 ≤ h2043.size := Nat.le_trans z2042 (Keep.of_wr W2043).1
    have f2047 : own_Ar Z h2043 x .boolean 7 (own_I (own_set f k (nar .boolean (0 : Int32)))) := by rw [← own_upI]; exact ub2043 (fits_nar_bool _) W2043
    have N2043 := Fr.snoc X2043 N2038 pr2
    have rowf := p2038_0.wrx W2043
    have f2048 : own_Ar Z h2043 x .boolean 7 (own_I (own_set f k (0 : Int32))) := f2047.eqvI (fun i hi => rfl)
    refine own_Go.of (S' := (T2043.setTop (mkF m 54 #[.val (.ref o), .val (.ref x), .val (.int (Int32.ofNat k)), .val (.int (0 : Int32)), .val (.int pl), .val (.int q), .val (.int (Int32.ofNat st)), .val (.int (Int32.ofNat ln))] [(.int (Int32.ofNat (k + 1)))]))) (fun t kt => ?_) ?_
    · show Steps p.tables e below (T2043.setTop (mkF m 51 #[.val (.ref o), .val (.ref x), .val (.int (Int32.ofNat k)), .val (.int (0 : Int32)), .val (.int pl), .val (.int q), .val (.int (Int32.ofNat st)), .val (.int (Int32.ofNat ln))] [])) _
      refine XS.iloadN X2043.here hx rfl (own_hb hby d4_51) rfl ?_
      show Steps p.tables e below (T2043.setTop (mkF m 52 #[.val (.ref o), .val (.ref x), .val (.int (Int32.ofNat k)), .val (.int (0 : Int32)), .val (.int pl), .val (.int q), .val (.int (Int32.ofNat st)), .val (.int (Int32.ofNat ln))] [(.int (Int32.ofNat k))])) _
      refine XS.iconst X2043.here hx rfl (own_hb hby d4_52) ?_
      show Steps p.tables e below (T2043.setTop (mkF m 53 #[.val (.ref o), .val (.ref x), .val (.int (Int32.ofNat k)), .val (.int (0 : Int32)), .val (.int pl), .val (.int q), .val (.int (Int32.ofNat st)), .val (.int (Int32.ofNat ln))] [(.int (1 : Int32)), (.int (Int32.ofNat k))])) _
      refine XS.iadd X2043.here hx rfl (own_hb hby d4_53) rfl ?_
      show Steps p.tables e below (T2043.setTop (mkF m 54 #[.val (.ref o), .val (.ref x), .val (.int (Int32.ofNat k)), .val (.int (0 : Int32)), .val (.int pl), .val (.int q), .val (.int (Int32.ofNat st)), .val (.int (Int32.ofNat ln))] [(.int ((Int32.ofNat k) + (1 : Int32)))])) _
      rw [show Int32.ofNat k + (1 : Int32) = Int32.ofNat (k + 1) from own_addN k 1]
      exact kt
    exact own_retI X2043 hx hlk hret (own_hb hby d4_54) e2043 ⟨rfl, N2043, ks2044, rowf, f2048⟩ (by decide) (by decide)
  · skip
    refine own_Go.of (S' := (T0.setTop (mkF m 5 #[.val (.ref o), .val (.ref x), .val (.int (Int32.ofNat k)), .val (.int (1 : Int32)), .val (.int pl), .val (.int q), .unset, .unset] [(.ref o)]))) (fun t kt => ?_) ?_
    · show Steps p.tables e below (T0.setTop (mkF m 0 #[.val (.ref o), .val (.ref x), .val (.int (Int32.ofNat k)), .val (.int (1 : Int32)), .val (.int pl), .val (.int q), .unset, .unset] [])) _
      refine XS.iloadN X0.here hx rfl (own_hb hby d4_0) rfl ?_
      show Steps p.tables e below (T0.setTop (mkF m 1 #[.val (.ref o), .val (.ref x), .val (.int (Int32.ofNat k)), .val (.int (1 : Int32)), .val (.int pl), .val (.int q), .unset, .unset] [(.int (1 : Int32))])) _
      refine XS.ifNo X0.here hx rfl (own_hb hby d4_1) rfl ((if0 _ _).trans (feq (by decide : ¬ ((1 : Int32) = (0 : Int32)))).1) ?_
      show Steps p.tables e below (T0.setTop (mkF m 4 #[.val (.ref o), .val (.ref x), .val (.int (Int32.ofNat k)), .val (.int (1 : Int32)), .val (.int pl), .val (.int q), .unset, .unset] [])) _
      refine XS.aloadN X0.here hx rfl (own_hb hby d4_4) rfl rfl ?_
      exact kt
    obtain ⟨cq2049, kq2049, q2049a, q2049b, q2049c⟩ := isOf hZ e0 row.exa
    obtain ⟨_, _, ⟨T2049, L2049, k2049, n2049⟩, -, X2049, ⟨Lc2049, hQ2049, l2049, y2049, z2049⟩, st2049⟩ := X0.virtualBack hx (y := (⟨"com/example/quayside/quayside/Row", "addNull", "()V"⟩ : MethodName)) (z := (⟨"com/example/quayside/quayside/Row", "addNull", "()V"⟩ : MethodName)) hown (mvT hZ (hw _ (List.mem_of_getElem? (i := 58) rfl))) (mvT hZ (hw _ (List.mem_of_getElem? (i := 59) rfl))) (notFace_of_selects (args := #[]) (mvT hZ (hw _ (List.mem_of_getElem? (i := 61) rfl)))) (mvT hZ (hw _ (List.mem_of_getElem? (i := 61) rfl))) (mvT hZ (hw _ (List.mem_of_getElem? (i := 60) rfl))) (by decide) (backOf (W := 0) (rm10s l Z a0 hw [] x o k cap f h0 n0 Z0 row hk hLx) hZ (hw _ (List.mem_of_getElem? (i := 62) rfl)) (hw _ (List.mem_of_getElem? (i := 3) rfl)) (by decide) (by decide)) q2049a q2049c (g := (mkF m 5 #[.val (.ref o), .val (.ref x), .val (.int (Int32.ofNat k)), .val (.int (1 : Int32)), .val (.int pl), .val (.int q), .unset, .unset] [(.ref o)])) rfl (by rw [hml]; rfl) (Steps.refl _) (argsL := []) (rest := []) (lenOf pd_5 rfl) rfl (by show 2 * 0 + _ ≤ _; exact Nat.le_of_eq rfl) (own_hb hby d4_5) (fun _ _ => ⟨rfl, e0, (by decide : 0 + 2 ≤ _), (by decide : 0 + 8 ≤ _)⟩)
    dsimp only [Pt.U, Pt.locs, Pt.cells, Pt.slots] at X2049 l2049 y2049 z2049 st2049 hQ2049
    subst l2049 y2049 z2049
    obtain ⟨rfl, N2049q, K2049, p2049_0⟩ := hQ2049
    have N2049 := Fr.app N0 N2049q
    refine own_Go.of (S' := (T2049.setTop (mkF m 8 #[.val (.ref o), .val (.ref x), .val (.int (Int32.ofNat k)), .val (.int (1 : Int32)), .val (.int pl), .val (.int q), .unset, .unset] []))) (fun t kt => st2049.trans kt) ?_
    have ks2050 : h0.size ≤ T2049.heap.size := Nat.le_trans ks0 K2049.1
    have f2051 : own_Ar Z T2049.heap x .boolean 7 (own_I f) := pr1.kx K2049
    have f2052 : own_Lt T2049.heap x := hLx.kx K2049
    have z2053 : n0 ≤ T2049.heap.size := Nat.le_trans Z0 K2049.1
    refine own_Go.of (S' := (T2049.setTop (mkF m 50 #[.val (.ref o), .val (.ref x), .val (.int (Int32.ofNat k)), .val (.int (1 : Int32)), .val (.int pl), .val (.int q), .unset, .unset] [(.int (1 : Int32)), (.int (Int32.ofNat k)), (.ref x)]))) (fun t kt => ?_) ?_
    · show Steps p.tables e below (T2049.setTop (mkF m 8 #[.val (.ref o), .val (.ref x), .val (.int (Int32.ofNat k)), .val (.int (1 : Int32)), .val (.int pl), .val (.int q), .unset, .unset] [])) _
      refine XS.goto X2049.here hx rfl (pc0 := 8) (pc' := 47) rfl (own_hb hby d4_8) (by decide) (by decide) ?_
      show Steps p.tables e below (T2049.setTop (mkF m 47 #[.val (.ref o), .val (.ref x), .val (.int (Int32.ofNat k)), .val (.int (1 : Int32)), .val (.int pl), .val (.int q), .unset, .unset] [])) _
      refine XS.aloadN X2049.here hx rfl (own_hb hby d4_47) rfl rfl ?_
      show Steps p.tables e below (T2049.setTop (mkF m 48 #[.val (.ref o), .val (.ref x), .val (.int (Int32.ofNat k)), .val (.int (1 : Int32)), .val (.int pl), .val (.int q), .unset, .unset] [(.ref x)])) _
      refine XS.iloadN X2049.here hx rfl (own_hb hby d4_48) rfl ?_
      show Steps p.tables e below (T2049.setTop (mkF m 49 #[.val (.ref o), .val (.ref x), .val (.int (Int32.ofNat k)), .val (.int (1 : Int32)), .val (.int pl), .val (.int q), .unset, .unset] [(.int (Int32.ofNat k)), (.ref x)])) _
      refine XS.iloadN X2049.here hx rfl (own_hb hby d4_49) rfl ?_
      exact kt
    obtain ⟨cl2054, Ar2054, hin2054, ub2054⟩ := own_Ar.put (j := (Int32.ofNat k)) (k := k) f2051 ⟨rfl, hk7⟩
    obtain ⟨T2054, h2054, X2054, e2054, W2054, st2054⟩ := stZ X2049 hx hZ rfl Ar2054 (j := (Int32.ofNat k)) hin2054 (g := (mkF m 50 #[.val (.ref o), .val (.ref x), .val (.int (Int32.ofNat k)), .val (.int (1 : Int32)), .val (.int pl), .val (.int q), .unset, .unset] [(.int (1 : Int32)), (.int (Int32.ofNat k)), (.ref x)])) rfl rfl (own_hb hby d4_50)
    refine own_Go.of (S' := (T2054.setTop (mkF m 51 #[.val (.ref o), .val (.ref x), .val (.int (Int32.ofNat k)), .val (.int (1 : Int32)), .val (.int pl), .val (.int q), .unset, .unset] []))) st2054 ?_
    have ks2055 : h0.size ≤ h2054.size := Nat.le_trans ks2050 (Keep.of_wr W2054).1
    have f2056 : own_Lt h2054 x := f2052.wr W2054
    have z2057 : n0 ≤ h2054.size := Nat.le_trans z2053 (Keep.of_wr W2054).1
    have f2058 : own_Ar Z h2054 x .boolean 7 (own_I (own_set f k (nar .boolean (1 : Int32)))) := by rw [← own_upI]; exact ub2054 (fits_nar_bool _) W2054
    have N2054 := Fr.snoc X2054 N2049 pr2
    have rowf := p2049_0.wrx W2054
    have f2059 : own_Ar Z h2054 x .boolean 7 (own_I (own_set f k (1 : Int32))) := f2058.eqvI (fun i hi => rfl)
    refine own_Go.of (S' := (T2054.setTop (mkF m 54 #[.val (.ref o), .val (.ref x), .val (.int (Int32.ofNat k)), .val (.int (1 : Int32)), .val (.int pl), .val (.int q), .unset, .unset] [(.int (Int32.ofNat (k + 1)))]))) (fun t kt => ?_) ?_
    · show Steps p.tables e below (T2054.setTop (mkF m 51 #[.val (.ref o), .val (.ref x), .val (.int (Int32.ofNat k)), .val (.int (1 : Int32)), .val (.int pl), .val (.int q), .unset, .unset] [])) _
      refine XS.iloadN X2054.here hx rfl (own_hb hby d4_51) rfl ?_
      show Steps p.tables e below (T2054.setTop (mkF m 52 #[.val (.ref o), .val (.ref x), .val (.int (Int32.ofNat k)), .val (.int (1 : Int32)), .val (.int pl), .val (.int q), .unset, .unset] [(.int (Int32.ofNat k))])) _
      refine XS.iconst X2054.here hx rfl (own_hb hby d4_52) ?_
      show Steps p.tables e below (T2054.setTop (mkF m 53 #[.val (.ref o), .val (.ref x), .val (.int (Int32.ofNat k)), .val (.int (1 : Int32)), .val (.int pl), .val (.int q), .unset, .unset] [(.int (1 : Int32)), (.int (Int32.ofNat k))])) _
      refine XS.iadd X2054.here hx rfl (own_hb hby d4_53) rfl ?_
      show Steps p.tables e below (T2054.setTop (mkF m 54 #[.val (.ref o), .val (.ref x), .val (.int (Int32.ofNat k)), .val (.int (1 : Int32)), .val (.int pl), .val (.int q), .unset, .unset] [(.int ((Int32.ofNat k) + (1 : Int32)))])) _
      rw [show Int32.ofNat k + (1 : Int32) = Int32.ofNat (k + 1) from own_addN k 1]
      exact kt
    exact own_retI X2054 hx hlk hret (own_hb hby d4_54) e2054 ⟨rfl, N2054, ks2055, rowf, f2059⟩ (by decide) (by decide)
def Q_rm4g (Z : State) (o : Addr) (x : Addr) (k : Nat) (b : Int32) (pl : Int32) (q : Int32) (cap : Nat) (f : Nat → Int32) (h0 : Heap) (n0 : Nat) (v : Option Value) (h : Heap) (L : List Loc) : Prop := ∃ cap' : Nat, v = some (.int (Int32.ofNat (k + 1))) ∧ Fr n0 L ∧ h0.size ≤ h.size ∧ (own_Row Z h n0 x o (k + 1) cap' (own_set f k b)) ∧ (own_Ar Z h x .boolean 7 (own_I (own_set f k b)))
set_option maxRecDepth 65536 in
set_option maxHeartbeats 40000000 in
theorem rm4g (l : Launch) (Z : State) (a0 : Array Value) (hw : ∀ d ∈ tables_1, d.before a0 Z = true) (ws : List Jvm.Cond) (o : Addr) (x : Addr) (k : Nat) (b : Int32) (pl : Int32) (q : Int32) (cap : Nat) (f : Nat → Int32) (h0 : Heap) (n0 : Nat) (Z0 : n0 ≤ h0.size) (row : own_Row Z h0 n0 x o k cap f) (pr1 : own_Ar Z h0 x .boolean 7 (own_I f)) (pr2 : n0 ≤ x) (hb01 : b = 0 ∨ b = 1) (hk : k ≤ 6) (hk7 : k < 7) :
    own_Met l Z h0 (⟨"com/example/quayside/quayside/RowIsNullPinLaw", "put", "(Lcom/example/quayside/quayside/Row;[ZIZII)I"⟩ : MethodName) method_3_code 8 (some .int) ws ({ frames := 4, cells := 4, slots := 24, locals := 59 } : Room) #[(.ref o), (.ref x), (.int (Int32.ofNat k)), (.int b), (.int pl), (.int q)] (Q_rm4g Z o x k b pl q cap f h0 n0) := by
  refine own_enter (plainFor_of_name pn_4) ?_
  intro p e s m below meth c T0 X0 hx hby hml hret hlk hown hnm hZ e0
  have N0 := Fr.nil n0
  have ks0 : h0.size ≤ h0.size := Nat.le_refl _
  rw [show entryFrame m #[(.ref o), (.ref x), (.int (Int32.ofNat k)), (.int b), (.int pl), (.int q)] 8 = (mkF m 0 #[.val (.ref o), .val (.ref x), .val (.int (Int32.ofNat k)), .val (.int b), .val (.int pl), .val (.int q), .unset, .unset] []) from by first | (simp [entryFrame, mkF, argsToLocals, Value.category]; done) | rfl]
  have hLx : own_Lt h0 x := pr1.lt
  rcases hb01 with rfl | rfl
  · skip
    refine own_Go.of (S' := (T0.setTop (mkF m 20 #[.val (.ref o), .val (.ref x), .val (.int (Int32.ofNat k)), .val (.int (0 : Int32)), .val (.int pl), .val (.int q), .unset, .unset] [(.int (((pl.toUInt32 >>> (((2 : Int32) * q) &&& 31).toUInt32).toInt32) &&& (3 : Int32)))]))) (fun t kt => ?_) ?_
    · show Steps p.tables e below (T0.setTop (mkF m 0 #[.val (.ref o), .val (.ref x), .val (.int (Int32.ofNat k)), .val (.int (0 : Int32)), .val (.int pl), .val (.int q), .unset, .unset] [])) _
      refine XS.iloadN X0.here hx rfl (own_hb hby d4_0) rfl ?_
      show Steps p.tables e below (T0.setTop (mkF m 1 #[.val (.ref o), .val (.ref x), .val (.int (Int32.ofNat k)), .val (.int (0 : Int32)), .val (.int pl), .val (.int q), .unset, .unset] [(.int (0 : Int32))])) _
      refine XS.ifYes X0.here hx rfl (pc0 := 1) (pc' := 11) rfl (own_hb hby d4_1) rfl ((if0 _ _).trans (teq (rfl : (0 : Int32) = (0 : Int32))).1) (by decide) (by decide) ?_
      show Steps p.tables e below (T0.setTop (mkF m 11 #[.val (.ref o), .val (.ref x), .val (.int (Int32.ofNat k)), .val (.int (0 : Int32)), .val (.int pl), .val (.int q), .unset, .unset] [])) _
      refine XS.iload X0.here hx rfl (own_hb hby d4_11) rfl ?_
      show Steps p.tables e below (T0.setTop (mkF m 13 #[.val (.ref o), .val (.ref x), .val (.int (Int32.ofNat k)), .val (.int (0 : Int32)), .val (.int pl), .val (.int q), .unset, .unset] [(.int pl)])) _
      refine XS.iconst X0.here hx rfl (own_hb hby d4_13) ?_
      show Steps p.tables e below (T0.setTop (mkF m 14 #[.val (.ref o), .val (.ref x), .val (.int (Int32.ofNat k)), .val (.int (0 : Int32)), .val (.int pl), .val (.int q), .unset, .unset] [(.int (2 : Int32)), (.int pl)])) _
      refine XS.iload X0.here hx rfl (own_hb hby d4_14) rfl ?_
      show Steps p.tables e below (T0.setTop (mkF m 16 #[.val (.ref o), .val (.ref x), .val (.int (Int32.ofNat k)), .val (.int (0 : Int32)), .val (.int pl), .val (.int q), .unset, .unset] [(.int q), (.int (2 : Int32)), (.int pl)])) _
      refine XS.imul X0.here hx rfl (own_hb hby d4_16) rfl ?_
      show Steps p.tables e below (T0.setTop (mkF m 17 #[.val (.ref o), .val (.ref x), .val (.int (Int32.ofNat k)), .val (.int (0 : Int32)), .val (.int pl), .val (.int q), .unset, .unset] [(.int ((2 : Int32) * q)), (.int pl)])) _
      refine XS.iushr X0.here hx rfl (own_hb hby d4_17) rfl ?_
      show Steps p.tables e below (T0.setTop (mkF m 18 #[.val (.ref o), .val (.ref x), .val (.int (Int32.ofNat k)), .val (.int (0 : Int32)), .val (.int pl), .val (.int q), .unset, .unset] [(.int ((pl.toUInt32 >>> (((2 : Int32) * q) &&& 31).toUInt32).toInt32))])) _
      refine XS.iconst X0.here hx rfl (own_hb hby d4_18) ?_
      show Steps p.tables e below (T0.setTop (mkF m 19 #[.val (.ref o), .val (.ref x), .val (.int (Int32.ofNat k)), .val (.int (0 : Int32)), .val (.int pl), .val (.int q), .unset, .unset] [(.int (3 : Int32)), (.int ((pl.toUInt32 >>> (((2 : Int32) * q) &&& 31).toUInt32).toInt32))])) _
      refine XS.iand X0.here hx rfl (own_hb hby d4_19) rfl ?_
      exact kt
    obtain ⟨st, hst, est⟩ : ∃ n : Nat, n ≤ 3 ∧ (((pl.toUInt32 >>> (((2 : Int32) * q) &&& 31).toUInt32).toInt32) &&& (3 : Int32)) = Int32.ofNat n := own_mask _ 3
    refine own_Go.of (S' := (T0.setTop (mkF m 34 #[.val (.ref o), .val (.ref x), .val (.int (Int32.ofNat k)), .val (.int (0 : Int32)), .val (.int pl), .val (.int q), .val (.int (Int32.ofNat st)), .unset] [(.int (((pl.toUInt32 >>> ((((2 : Int32) * q) + (16 : Int32)) &&& 31).toUInt32).toInt32) &&& (1 : Int32)))]))) (fun t kt => ?_) ?_
    · show Steps p.tables e below (T0.setTop (mkF m 20 #[.val (.ref o), .val (.ref x), .val (.int (Int32.ofNat k)), .val (.int (0 : Int32)), .val (.int pl), .val (.int q), .unset, .unset] [(.int (((pl.toUInt32 >>> (((2 : Int32) * q) &&& 31).toUInt32).toInt32) &&& (3 : Int32)))])) _
      rw [est]
      show Steps p.tables e below (T0.setTop (mkF m 20 #[.val (.ref o), .val (.ref x), .val (.int (Int32.ofNat k)), .val (.int (0 : Int32)), .val (.int pl), .val (.int q), .unset, .unset] [(.int (Int32.ofNat st))])) _
      refine XS.istore X0.here hx rfl (own_hb hby d4_20) rfl (l' := #[.val (.ref o), .val (.ref x), .val (.int (Int32.ofNat k)), .val (.int (0 : Int32)), .val (.int pl), .val (.int q), .val (.int (Int32.ofNat st)), .unset]) rfl ?_
      show Steps p.tables e below (T0.setTop (mkF m 22 #[.val (.ref o), .val (.ref x), .val (.int (Int32.ofNat k)), .val (.int (0 : Int32)), .val (.int pl), .val (.int q), .val (.int (Int32.ofNat st)), .unset] [])) _
      refine XS.iload X0.here hx rfl (own_hb hby d4_22) rfl ?_
      show Steps p.tables e below (T0.setTop (mkF m 24 #[.val (.ref o), .val (.ref x), .val (.int (Int32.ofNat k)), .val (.int (0 : Int32)), .val (.int pl), .val (.int q), .val (.int (Int32.ofNat st)), .unset] [(.int pl)])) _
      refine XS.iconst X0.here hx rfl (own_hb hby d4_24) ?_
      show Steps p.tables e below (T0.setTop (mkF m 25 #[.val (.ref o), .val (.ref x), .val (.int (Int32.ofNat k)), .val (.int (0 : Int32)), .val (.int pl), .val (.int q), .val (.int (Int32.ofNat st)), .unset] [(.int (2 : Int32)), (.int pl)])) _
      refine XS.iload X0.here hx rfl (own_hb hby d4_25) rfl ?_
      show Steps p.tables e below (T0.setTop (mkF m 27 #[.val (.ref o), .val (.ref x), .val (.int (Int32.ofNat k)), .val (.int (0 : Int32)), .val (.int pl), .val (.int q), .val (.int (Int32.ofNat st)), .unset] [(.int q), (.int (2 : Int32)), (.int pl)])) _
      refine XS.imul X0.here hx rfl (own_hb hby d4_27) rfl ?_
      show Steps p.tables e below (T0.setTop (mkF m 28 #[.val (.ref o), .val (.ref x), .val (.int (Int32.ofNat k)), .val (.int (0 : Int32)), .val (.int pl), .val (.int q), .val (.int (Int32.ofNat st)), .unset] [(.int ((2 : Int32) * q)), (.int pl)])) _
      refine XS.bipush X0.here hx rfl (own_hb hby d4_28) ?_
      show Steps p.tables e below (T0.setTop (mkF m 30 #[.val (.ref o), .val (.ref x), .val (.int (Int32.ofNat k)), .val (.int (0 : Int32)), .val (.int pl), .val (.int q), .val (.int (Int32.ofNat st)), .unset] [(.int (16 : Int32)), (.int ((2 : Int32) * q)), (.int pl)])) _
      refine XS.iadd X0.here hx rfl (own_hb hby d4_30) rfl ?_
      show Steps p.tables e below (T0.setTop (mkF m 31 #[.val (.ref o), .val (.ref x), .val (.int (Int32.ofNat k)), .val (.int (0 : Int32)), .val (.int pl), .val (.int q), .val (.int (Int32.ofNat st)), .unset] [(.int (((2 : Int32) * q) + (16 : Int32))), (.int pl)])) _
      refine XS.iushr X0.here hx rfl (own_hb hby d4_31) rfl ?_
      show Steps p.tables e below (T0.setTop (mkF m 32 #[.val (.ref o), .val (.ref x), .val (.int (Int32.ofNat k)), .val (.int (0 : Int32)), .val (.int pl), .val (.int q), .val (.int (Int32.ofNat st)), .unset] [(.int ((pl.toUInt32 >>> ((((2 : Int32) * q) + (16 : Int32)) &&& 31).toUInt32).toInt32))])) _
      refine XS.iconst X0.here hx rfl (own_hb hby d4_32) ?_
      show Steps p.tables e below (T0.setTop (mkF m 33 #[.val (.ref o), .val (.ref x), .val (.int (Int32.ofNat k)), .val (.int (0 : Int32)), .val (.int pl), .val (.int q), .val (.int (Int32.ofNat st)), .unset] [(.int (1 : Int32)), (.int ((pl.toUInt32 >>> ((((2 : Int32) * q) + (16 : Int32)) &&& 31).toUInt32).toInt32))])) _
      refine XS.iand X0.here hx rfl (own_hb hby d4_33) rfl ?_
      exact kt
    obtain ⟨ln, hln, eln⟩ : ∃ n : Nat, n ≤ 1 ∧ (((pl.toUInt32 >>> ((((2 : Int32) * q) + (16 : Int32)) &&& 31).toUInt32).toInt32) &&& (1 : Int32)) = Int32.ofNat n := own_mask _ 1
    refine own_Go.of (S' := (T0.setTop (mkF m 44 #[.val (.ref o), .val (.ref x), .val (.int (Int32.ofNat k)), .val (.int (0 : Int32)), .val (.int pl), .val (.int q), .val (.int (Int32.ofNat st)), .val (.int (Int32.ofNat ln))] [(.int (Int32.ofNat (st + ln))), (.int (Int32.ofNat st)), (.ref o)]))) (fun t kt => ?_) ?_
    · show Steps p.tables e below (T0.setTop (mkF m 34 #[.val (.ref o), .val (.ref x), .val (.int (Int32.ofNat k)), .val (.int (0 : Int32)), .val (.int pl), .val (.int q), .val (.int (Int32.ofNat st)), .unset] [(.int (((pl.toUInt32 >>> ((((2 : Int32) * q) + (16 : Int32)) &&& 31).toUInt32).toInt32) &&& (1 : Int32)))])) _
      rw [eln]
      show Steps p.tables e below (T0.setTop (mkF m 34 #[.val (.ref o), .val (.ref x), .val (.int (Int32.ofNat k)), .val (.int (0 : Int32)), .val (.int pl), .val (.int q), .val (.int (Int32.ofNat st)), .unset] [(.int (Int32.ofNat ln))])) _
      refine XS.istore X0.here hx rfl (own_hb hby d4_34) rfl (l' := #[.val (.ref o), .val (.ref x), .val (.int (Int32.ofNat k)), .val (.int (0 : Int32)), .val (.int pl), .val (.int q), .val (.int (Int32.ofNat st)), .val (.int (Int32.ofNat ln))]) rfl ?_
      show Steps p.tables e below (T0.setTop (mkF m 36 #[.val (.ref o), .val (.ref x), .val (.int (Int32.ofNat k)), .val (.int (0 : Int32)), .val (.int pl), .val (.int q), .val (.int (Int32.ofNat st)), .val (.int (Int32.ofNat ln))] [])) _
      refine XS.aloadN X0.here hx rfl (own_hb hby d4_36) rfl rfl ?_
      show Steps p.tables e below (T0.setTop (mkF m 37 #[.val (.ref o), .val (.ref x), .val (.int (Int32.ofNat k)), .val (.int (0 : Int32)), .val (.int pl), .val (.int q), .val (.int (Int32.ofNat st)), .val (.int (Int32.ofNat ln))] [(.ref o)])) _
      refine XS.iload X0.here hx rfl (own_hb hby d4_37) rfl ?_
      show Steps p.tables e below (T0.setTop (mkF m 39 #[.val (.ref o), .val (.ref x), .val (.int (Int32.ofNat k)), .val (.int (0 : Int32)), .val (.int pl), .val (.int q), .val (.int (Int32.ofNat st)), .val (.int (Int32.ofNat ln))] [(.int (Int32.ofNat st)), (.ref o)])) _
      refine XS.iload X0.here hx rfl (own_hb hby d4_39) rfl ?_
      show Steps p.tables e below (T0.setTop (mkF m 41 #[.val (.ref o), .val (.ref x), .val (.int (Int32.ofNat k)), .val (.int (0 : Int32)), .val (.int pl), .val (.int q), .val (.int (Int32.ofNat st)), .val (.int (Int32.ofNat ln))] [(.int (Int32.ofNat st)), (.int (Int32.ofNat st)), (.ref o)])) _
      refine XS.iload X0.here hx rfl (own_hb hby d4_41) rfl ?_
      show Steps p.tables e below (T0.setTop (mkF m 43 #[.val (.ref o), .val (.ref x), .val (.int (Int32.ofNat k)), .val (.int (0 : Int32)), .val (.int pl), .val (.int q), .val (.int (Int32.ofNat st)), .val (.int (Int32.ofNat ln))] [(.int (Int32.ofNat ln)), (.int (Int32.ofNat st)), (.int (Int32.ofNat st)), (.ref o)])) _
      refine XS.iadd X0.here hx rfl (own_hb hby d4_43) rfl ?_
      show Steps p.tables e below (T0.setTop (mkF m 44 #[.val (.ref o), .val (.ref x), .val (.int (Int32.ofNat k)), .val (.int (0 : Int32)), .val (.int pl), .val (.int q), .val (.int (Int32.ofNat st)), .val (.int (Int32.ofNat ln))] [(.int ((Int32.ofNat st) + (Int32.ofNat ln))), (.int (Int32.ofNat st)), (.ref o)])) _
      rw [own_addN st ln]
      exact kt
    obtain ⟨cq2060, kq2060, q2060a, q2060b, q2060c⟩ := isOf hZ e0 row.exa
    obtain ⟨_, _, ⟨T2060, L2060, k2060, n2060⟩, -, X2060, ⟨Lc2060, hQ2060, l2060, y2060, z2060⟩, st2060⟩ := X0.virtualBack hx (y := (⟨"com/example/quayside/quayside/Row", "add", "(II)V"⟩ : MethodName)) (z := (⟨"com/example/quayside/quayside/Row", "add", "(II)V"⟩ : MethodName)) hown (mvT hZ (hw _ (List.mem_of_getElem? (i := 25) rfl))) (mvT hZ (hw _ (List.mem_of_getElem? (i := 26) rfl))) (notFace_of_selects (args := #[]) (mvT hZ (hw _ (List.mem_of_getElem? (i := 28) rfl)))) (mvT hZ (hw _ (List.mem_of_getElem? (i := 28) rfl))) (mvT hZ (hw _ (List.mem_of_getElem? (i := 27) rfl))) (by decide) (backOf (W := 0) (rm5pg l Z a0 hw [] x o st (Int32.ofNat (st + ln)) k cap f h0 n0 Z0 row hk (by omega) (fun q => by have h2 := (own_ltN (by omega) (by omega)).mp q; omega) hLx) hZ (hw _ (List.mem_of_getElem? (i := 29) rfl)) (hw _ (List.mem_of_getElem? (i := 3) rfl)) (by decide) (by decide)) q2060a q2060c (g := (mkF m 44 #[.val (.ref o), .val (.ref x), .val (.int (Int32.ofNat k)), .val (.int (0 : Int32)), .val (.int pl), .val (.int q), .val (.int (Int32.ofNat st)), .val (.int (Int32.ofNat ln))] [(.int (Int32.ofNat (st + ln))), (.int (Int32.ofNat st)), (.ref o)])) rfl (by rw [hml]; rfl) (Steps.refl _) (argsL := [(.int (Int32.ofNat st)), (.int (Int32.ofNat (st + ln)))]) (rest := []) (lenOf pd_2 rfl) rfl (by show 2 * 0 + _ ≤ _; exact Nat.le_of_eq rfl) (own_hb hby d4_44) (fun _ _ => ⟨rfl, e0, (by decide : 0 + 2 ≤ _), (by decide : 0 + 16 ≤ _)⟩)
    dsimp only [Pt.U, Pt.locs, Pt.cells, Pt.slots] at X2060 l2060 y2060 z2060 st2060 hQ2060
    subst l2060 y2060 z2060
    obtain ⟨cap'2060, rfl, N2060q, K2060, p2060_0⟩ := hQ2060
    have N2060 := Fr.app N0 N2060q
    refine own_Go.of (S' := (T2060.setTop (mkF m 47 #[.val (.ref o), .val (.ref x), .val (.int (Int32.ofNat k)), .val (.int (0 : Int32)), .val (.int pl), .val (.int q), .val (.int (Int32.ofNat st)), .val (.int (Int32.ofNat ln))] []))) (fun t kt => st2060.trans kt) ?_
    have ks2061 : h0.size ≤ T2060.heap.size := Nat.le_trans ks0 K2060.1
    have f2062 : own_Ar Z T2060.heap x .boolean 7 (own_I f) := pr1.kx K2060
    have f2063 : own_Lt T2060.heap x := hLx.kx K2060
    have z2064 : n0 ≤ T2060.heap.size := Nat.le_trans Z0 K2060.1
    refine own_Go.of (S' := (T2060.setTop (mkF m 50 #[.val (.ref o), .val (.ref x), .val (.int (Int32.ofNat k)), .val (.int (0 : Int32)), .val (.int pl), .val (.int q), .val (.int (Int32.ofNat st)), .val (.int (Int32.ofNat ln))] [(.int (0 : Int32)), (.int (Int32.ofNat k)), (.ref x)]))) (fun t kt => ?_) ?_
    · show Steps p.tables e below (T2060.setTop (mkF m 47 #[.val (.ref o), .val (.ref x), .val (.int (Int32.ofNat k)), .val (.int (0 : Int32)), .val (.int pl), .val (.int q), .val (.int (Int32.ofNat st)), .val (.int (Int32.ofNat ln))] [])) _
      refine XS.aloadN X2060.here hx rfl (own_hb hby d4_47) rfl rfl ?_
      show Steps p.tables e below (T2060.setTop (mkF m 48 #[.val (.ref o), .val (.ref x), .val (.int (Int32.ofNat k)), .val (.int (0 : Int32)), .val (.int pl), .val (.int q), .val (.int (Int32.ofNat st)), .val (.int (Int32.ofNat ln))] [(.ref x)])) _
      refine XS.iloadN X2060.here hx rfl (own_hb hby d4_48) rfl ?_
      show Steps p.tables e below (T2060.setTop (mkF m 49 #[.val (.ref o), .val (.ref x), .val (.int (Int32.ofNat k)), .val (.int (0 : Int32)), .val (.int pl), .val (.int q), .val (.int (Int32.ofNat st)), .val (.int (Int32.ofNat ln))] [(.int (Int32.ofNat k)), (.ref x)])) _
      refine XS.iloadN X2060.here hx rfl (own_hb hby d4_49) rfl ?_
      exact kt
    obtain ⟨cl2065, Ar2065, hin2065, ub2065⟩ := own_Ar.put (j := (Int32.ofNat k)) (k := k) f2062 ⟨rfl, hk7⟩
    obtain ⟨T2065, h2065, X2065, e2065, W2065, st2065⟩ := stZ X2060 hx hZ rfl Ar2065 (j := (Int32.ofNat k)) hin2065 (g := (mkF m 50 #[.val (.ref o), .val (.ref x), .val (.int (Int32.ofNat k)), .val (.int (0 : Int32)), .val (.int pl), .val (.int q), .val (.int (Int32.ofNat st)), .val (.int (Int32.ofNat ln))] [(.int (0 : Int32)), (.int (Int32.ofNat k)), (.ref x)])) rfl rfl (own_hb hby d4_50)
    refine own_Go.of (S' := (T2065.setTop (mkF m 51 #[.val (.ref o), .val (.ref x), .val (.int (Int32.ofNat k)), .val (.int (0 : Int32)), .val (.int pl), .val (.int q), .val (.int (Int32.ofNat st)), .val (.int (Int32.ofNat ln))] []))) st2065 ?_
    have ks2066 : h0.size ≤ h2065.size := Nat.le_trans ks2061 (Keep.of_wr W2065).1
    have f2067 : own_Lt h2065 x := f2063.wr W2065
    have z2068 : n0 ≤ h2065.size := Nat.le_trans z2064 (Keep.of_wr W2065).1
    have f2069 : own_Ar Z h2065 x .boolean 7 (own_I (own_set f k (nar .boolean (0 : Int32)))) := by rw [← own_upI]; exact ub2065 (fits_nar_bool _) W2065
    have N2065 := Fr.snoc X2065 N2060 pr2
    have rowf := p2060_0.wrx W2065
    have f2070 : own_Ar Z h2065 x .boolean 7 (own_I (own_set f k (0 : Int32))) := f2069.eqvI (fun i hi => rfl)
    refine own_Go.of (S' := (T2065.setTop (mkF m 54 #[.val (.ref o), .val (.ref x), .val (.int (Int32.ofNat k)), .val (.int (0 : Int32)), .val (.int pl), .val (.int q), .val (.int (Int32.ofNat st)), .val (.int (Int32.ofNat ln))] [(.int (Int32.ofNat (k + 1)))]))) (fun t kt => ?_) ?_
    · show Steps p.tables e below (T2065.setTop (mkF m 51 #[.val (.ref o), .val (.ref x), .val (.int (Int32.ofNat k)), .val (.int (0 : Int32)), .val (.int pl), .val (.int q), .val (.int (Int32.ofNat st)), .val (.int (Int32.ofNat ln))] [])) _
      refine XS.iloadN X2065.here hx rfl (own_hb hby d4_51) rfl ?_
      show Steps p.tables e below (T2065.setTop (mkF m 52 #[.val (.ref o), .val (.ref x), .val (.int (Int32.ofNat k)), .val (.int (0 : Int32)), .val (.int pl), .val (.int q), .val (.int (Int32.ofNat st)), .val (.int (Int32.ofNat ln))] [(.int (Int32.ofNat k))])) _
      refine XS.iconst X2065.here hx rfl (own_hb hby d4_52) ?_
      show Steps p.tables e below (T2065.setTop (mkF m 53 #[.val (.ref o), .val (.ref x), .val (.int (Int32.ofNat k)), .val (.int (0 : Int32)), .val (.int pl), .val (.int q), .val (.int (Int32.ofNat st)), .val (.int (Int32.ofNat ln))] [(.int (1 : Int32)), (.int (Int32.ofNat k))])) _
      refine XS.iadd X2065.here hx rfl (own_hb hby d4_53) rfl ?_
      show Steps p.tables e below (T2065.setTop (mkF m 54 #[.val (.ref o), .val (.ref x), .val (.int (Int32.ofNat k)), .val (.int (0 : Int32)), .val (.int pl), .val (.int q), .val (.int (Int32.ofNat st)), .val (.int (Int32.ofNat ln))] [(.int ((Int32.ofNat k) + (1 : Int32)))])) _
      rw [show Int32.ofNat k + (1 : Int32) = Int32.ofNat (k + 1) from own_addN k 1]
      exact kt
    exact own_retI X2065 hx hlk hret (own_hb hby d4_54) e2065 ⟨cap'2060, rfl, N2065, ks2066, rowf, f2070⟩ (by decide) (by decide)
  · skip
    refine own_Go.of (S' := (T0.setTop (mkF m 5 #[.val (.ref o), .val (.ref x), .val (.int (Int32.ofNat k)), .val (.int (1 : Int32)), .val (.int pl), .val (.int q), .unset, .unset] [(.ref o)]))) (fun t kt => ?_) ?_
    · show Steps p.tables e below (T0.setTop (mkF m 0 #[.val (.ref o), .val (.ref x), .val (.int (Int32.ofNat k)), .val (.int (1 : Int32)), .val (.int pl), .val (.int q), .unset, .unset] [])) _
      refine XS.iloadN X0.here hx rfl (own_hb hby d4_0) rfl ?_
      show Steps p.tables e below (T0.setTop (mkF m 1 #[.val (.ref o), .val (.ref x), .val (.int (Int32.ofNat k)), .val (.int (1 : Int32)), .val (.int pl), .val (.int q), .unset, .unset] [(.int (1 : Int32))])) _
      refine XS.ifNo X0.here hx rfl (own_hb hby d4_1) rfl ((if0 _ _).trans (feq (by decide : ¬ ((1 : Int32) = (0 : Int32)))).1) ?_
      show Steps p.tables e below (T0.setTop (mkF m 4 #[.val (.ref o), .val (.ref x), .val (.int (Int32.ofNat k)), .val (.int (1 : Int32)), .val (.int pl), .val (.int q), .unset, .unset] [])) _
      refine XS.aloadN X0.here hx rfl (own_hb hby d4_4) rfl rfl ?_
      exact kt
    obtain ⟨cq2071, kq2071, q2071a, q2071b, q2071c⟩ := isOf hZ e0 row.exa
    obtain ⟨_, _, ⟨T2071, L2071, k2071, n2071⟩, -, X2071, ⟨Lc2071, hQ2071, l2071, y2071, z2071⟩, st2071⟩ := X0.virtualBack hx (y := (⟨"com/example/quayside/quayside/Row", "addNull", "()V"⟩ : MethodName)) (z := (⟨"com/example/quayside/quayside/Row", "addNull", "()V"⟩ : MethodName)) hown (mvT hZ (hw _ (List.mem_of_getElem? (i := 58) rfl))) (mvT hZ (hw _ (List.mem_of_getElem? (i := 59) rfl))) (notFace_of_selects (args := #[]) (mvT hZ (hw _ (List.mem_of_getElem? (i := 61) rfl)))) (mvT hZ (hw _ (List.mem_of_getElem? (i := 61) rfl))) (mvT hZ (hw _ (List.mem_of_getElem? (i := 60) rfl))) (by decide) (backOf (W := 0) (rm10g l Z a0 hw [] x o k cap f h0 n0 Z0 row hk hLx) hZ (hw _ (List.mem_of_getElem? (i := 62) rfl)) (hw _ (List.mem_of_getElem? (i := 3) rfl)) (by decide) (by decide)) q2071a q2071c (g := (mkF m 5 #[.val (.ref o), .val (.ref x), .val (.int (Int32.ofNat k)), .val (.int (1 : Int32)), .val (.int pl), .val (.int q), .unset, .unset] [(.ref o)])) rfl (by rw [hml]; rfl) (Steps.refl _) (argsL := []) (rest := []) (lenOf pd_5 rfl) rfl (by show 2 * 0 + _ ≤ _; exact Nat.le_of_eq rfl) (own_hb hby d4_5) (fun _ _ => ⟨rfl, e0, (by decide : 0 + 4 ≤ _), (by decide : 0 + 24 ≤ _)⟩)
    dsimp only [Pt.U, Pt.locs, Pt.cells, Pt.slots] at X2071 l2071 y2071 z2071 st2071 hQ2071
    subst l2071 y2071 z2071
    obtain ⟨cap'2071, rfl, N2071q, K2071, p2071_0⟩ := hQ2071
    have N2071 := Fr.app N0 N2071q
    refine own_Go.of (S' := (T2071.setTop (mkF m 8 #[.val (.ref o), .val (.ref x), .val (.int (Int32.ofNat k)), .val (.int (1 : Int32)), .val (.int pl), .val (.int q), .unset, .unset] []))) (fun t kt => st2071.trans kt) ?_
    have ks2072 : h0.size ≤ T2071.heap.size := Nat.le_trans ks0 K2071.1
    have f2073 : own_Ar Z T2071.heap x .boolean 7 (own_I f) := pr1.kx K2071
    have f2074 : own_Lt T2071.heap x := hLx.kx K2071
    have z2075 : n0 ≤ T2071.heap.size := Nat.le_trans Z0 K2071.1
    refine own_Go.of (S' := (T2071.setTop (mkF m 50 #[.val (.ref o), .val (.ref x), .val (.int (Int32.ofNat k)), .val (.int (1 : Int32)), .val (.int pl), .val (.int q), .unset, .unset] [(.int (1 : Int32)), (.int (Int32.ofNat k)), (.ref x)]))) (fun t kt => ?_) ?_
    · show Steps p.tables e below (T2071.setTop (mkF m 8 #[.val (.ref o), .val (.ref x), .val (.int (Int32.ofNat k)), .val (.int (1 : Int32)), .val (.int pl), .val (.int q), .unset, .unset] [])) _
      refine XS.goto X2071.here hx rfl (pc0 := 8) (pc' := 47) rfl (own_hb hby d4_8) (by decide) (by decide) ?_
      show Steps p.tables e below (T2071.setTop (mkF m 47 #[.val (.ref o), .val (.ref x), .val (.int (Int32.ofNat k)), .val (.int (1 : Int32)), .val (.int pl), .val (.int q), .unset, .unset] [])) _
      refine XS.aloadN X2071.here hx rfl (own_hb hby d4_47) rfl rfl ?_
      show Steps p.tables e below (T2071.setTop (mkF m 48 #[.val (.ref o), .val (.ref x), .val (.int (Int32.ofNat k)), .val (.int (1 : Int32)), .val (.int pl), .val (.int q), .unset, .unset] [(.ref x)])) _
      refine XS.iloadN X2071.here hx rfl (own_hb hby d4_48) rfl ?_
      show Steps p.tables e below (T2071.setTop (mkF m 49 #[.val (.ref o), .val (.ref x), .val (.int (Int32.ofNat k)), .val (.int (1 : Int32)), .val (.int pl), .val (.int q), .unset, .unset] [(.int (Int32.ofNat k)), (.ref x)])) _
      refine XS.iloadN X2071.here hx rfl (own_hb hby d4_49) rfl ?_
      exact kt
    obtain ⟨cl2076, Ar2076, hin2076, ub2076⟩ := own_Ar.put (j := (Int32.ofNat k)) (k := k) f2073 ⟨rfl, hk7⟩
    obtain ⟨T2076, h2076, X2076, e2076, W2076, st2076⟩ := stZ X2071 hx hZ rfl Ar2076 (j := (Int32.ofNat k)) hin2076 (g := (mkF m 50 #[.val (.ref o), .val (.ref x), .val (.int (Int32.ofNat k)), .val (.int (1 : Int32)), .val (.int pl), .val (.int q), .unset, .unset] [(.int (1 : Int32)), (.int (Int32.ofNat k)), (.ref x)])) rfl rfl (own_hb hby d4_50)
    refine own_Go.of (S' := (T2076.setTop (mkF m 51 #[.val (.ref o), .val (.ref x), .val (.int (Int32.ofNat k)), .val (.int (1 : Int32)), .val (.int pl), .val (.int q), .unset, .unset] []))) st2076 ?_
    have ks2077 : h0.size ≤ h2076.size := Nat.le_trans ks2072 (Keep.of_wr W2076).1
    have f2078 : own_Lt h2076 x := f2074.wr W2076
    have z2079 : n0 ≤ h2076.size := Nat.le_trans z2075 (Keep.of_wr W2076).1
    have f2080 : own_Ar Z h2076 x .boolean 7 (own_I (own_set f k (nar .boolean (1 : Int32)))) := by rw [← own_upI]; exact ub2076 (fits_nar_bool _) W2076
    have N2076 := Fr.snoc X2076 N2071 pr2
    have rowf := p2071_0.wrx W2076
    have f2081 : own_Ar Z h2076 x .boolean 7 (own_I (own_set f k (1 : Int32))) := f2080.eqvI (fun i hi => rfl)
    refine own_Go.of (S' := (T2076.setTop (mkF m 54 #[.val (.ref o), .val (.ref x), .val (.int (Int32.ofNat k)), .val (.int (1 : Int32)), .val (.int pl), .val (.int q), .unset, .unset] [(.int (Int32.ofNat (k + 1)))]))) (fun t kt => ?_) ?_
    · show Steps p.tables e below (T2076.setTop (mkF m 51 #[.val (.ref o), .val (.ref x), .val (.int (Int32.ofNat k)), .val (.int (1 : Int32)), .val (.int pl), .val (.int q), .unset, .unset] [])) _
      refine XS.iloadN X2076.here hx rfl (own_hb hby d4_51) rfl ?_
      show Steps p.tables e below (T2076.setTop (mkF m 52 #[.val (.ref o), .val (.ref x), .val (.int (Int32.ofNat k)), .val (.int (1 : Int32)), .val (.int pl), .val (.int q), .unset, .unset] [(.int (Int32.ofNat k))])) _
      refine XS.iconst X2076.here hx rfl (own_hb hby d4_52) ?_
      show Steps p.tables e below (T2076.setTop (mkF m 53 #[.val (.ref o), .val (.ref x), .val (.int (Int32.ofNat k)), .val (.int (1 : Int32)), .val (.int pl), .val (.int q), .unset, .unset] [(.int (1 : Int32)), (.int (Int32.ofNat k))])) _
      refine XS.iadd X2076.here hx rfl (own_hb hby d4_53) rfl ?_
      show Steps p.tables e below (T2076.setTop (mkF m 54 #[.val (.ref o), .val (.ref x), .val (.int (Int32.ofNat k)), .val (.int (1 : Int32)), .val (.int pl), .val (.int q), .unset, .unset] [(.int ((Int32.ofNat k) + (1 : Int32)))])) _
      rw [show Int32.ofNat k + (1 : Int32) = Int32.ofNat (k + 1) from own_addN k 1]
      exact kt
    exact own_retI X2076 hx hlk hret (own_hb hby d4_54) e2076 ⟨cap'2071, rfl, N2076, ks2077, rowf, f2081⟩ (by decide) (by decide)
def Q_rm0 (Z : State) (p0 : Int32) (p1 : Int32) (p2 : Int32) (p3 : Int32) (h0 : Heap) (n0 : Nat) (v : Option Value) (h : Heap) (L : List Loc) : Prop := v = some (.int (1 : Int32)) ∧ Fr n0 L
theorem pn_0 : plainName "com/example/quayside/quayside/RowIsNullPinLaw" = true := by first | (simp [plainName, overriddenIn]; done) | decide +kernel
theorem pd_6 : parseMethodDescriptor "()I" = some ⟨[], some .int⟩ := by decide +kernel
theorem pd_7 : parseMethodDescriptor "(I)Z" = some ⟨[.int], some .boolean⟩ := by decide +kernel
set_option maxRecDepth 65536 in
set_option maxHeartbeats 40000000 in
theorem seg228 {p : Program} {l : Launch} {e : Env} {s : State} {m : MethodId} {below : List Frame} {meth : Method} {c : Code} {Z : State} {a0 : Array Value} (hw : ∀ d ∈ tables_1, d.before a0 Z = true) (hx : p.tables.exec = Jvm.exec) (hZ : Z.Warmed39 s.vm) (hby : c.code = code) (hml : c.maxLocals = 12) (hret : meth.sig.returnType = ret) (hlk : meth.locks = false) (hown : s.vm.findClass "com/example/quayside/quayside/RowIsNullPinLaw" = some m.cls) (hnm : meth.name = "law") (p0 : Int32) (p1 : Int32) (p2 : Int32) (p3 : Int32) (h0 : Heap) (n0 : Nat) (x : Addr) (o : Addr) (k : Nat) (cap : Nat) (f : Nat → Int32) (i4 : Int32) (i5 : Int32) (n2 : Nat)
    {T1 : State} {h1 : Heap} {locs : List Loc} (X1 : Stand p l e room_1 s m #[(.int p0), (.int p1), (.int p2), (.int p3)] below meth c T1 locs 29 159) (e1 : T1.heap = h1) (N1 : Fr n0 locs) (Z1 : n0 ≤ h1.size) (row : own_Row Z h1 n0 x o k cap f) (pr1 : own_Ar Z h1 x .boolean 7 (own_I f)) (hk1 : 1 ≤ k) (hk7 : k ≤ 7) :
    own_Go p e below (T1.setTop (mkF m 228 #[.val (.int p0), .val (.int p1), .val (.int p2), .val (.int p3), .val (.int i4), .val (.int i5), .val (.int (Int32.ofNat n2)), .val (.ref x), .val (.ref o), .val (.int (Int32.ofNat k)), .unset, .unset] [])) (own_End s (Q_rm0 Z p0 p1 p2 p3 h0 n0) room_1.cells room_1.slots) := by
  refine own_Go.of (S' := (T1.setTop (mkF m 234 #[.val (.int p0), .val (.int p1), .val (.int p2), .val (.int p3), .val (.int i4), .val (.int i5), .val (.int (Int32.ofNat n2)), .val (.ref x), .val (.ref o), .val (.int (Int32.ofNat k)), .val (.int (Int32.ofNat k)), .unset] [(.ref o)]))) (fun t kt => ?_) ?_
  · show Steps p.tables e below (T1.setTop (mkF m 228 #[.val (.int p0), .val (.int p1), .val (.int p2), .val (.int p3), .val (.int i4), .val (.int i5), .val (.int (Int32.ofNat n2)), .val (.ref x), .val (.ref o), .val (.int (Int32.ofNat k)), .unset, .unset] [])) _
    refine XS.iload X1.here hx rfl (own_hb hby at_228) rfl ?_
    show Steps p.tables e below (T1.setTop (mkF m 230 #[.val (.int p0), .val (.int p1), .val (.int p2), .val (.int p3), .val (.int i4), .val (.int i5), .val (.int (Int32.ofNat n2)), .val (.ref x), .val (.ref o), .val (.int (Int32.ofNat k)), .unset, .unset] [(.int (Int32.ofNat k))])) _
    refine XS.istore X1.here hx rfl (own_hb hby at_230) rfl (l' := #[.val (.int p0), .val (.int p1), .val (.int p2), .val (.int p3), .val (.int i4), .val (.int i5), .val (.int (Int32.ofNat n2)), .val (.ref x), .val (.ref o), .val (.int (Int32.ofNat k)), .val (.int (Int32.ofNat k)), .unset]) rfl ?_
    show Steps p.tables e below (T1.setTop (mkF m 232 #[.val (.int p0), .val (.int p1), .val (.int p2), .val (.int p3), .val (.int i4), .val (.int i5), .val (.int (Int32.ofNat n2)), .val (.ref x), .val (.ref o), .val (.int (Int32.ofNat k)), .val (.int (Int32.ofNat k)), .unset] [])) _
    refine XS.aload X1.here hx rfl (own_hb hby at_232) rfl rfl ?_
    exact kt
  obtain ⟨cq2082, kq2082, q2082a, q2082b, q2082c⟩ := isOf hZ e1 row.exa
  obtain ⟨_, _, ⟨T2082, L2082, k2082, n2082⟩, -, X2082, ⟨Lc2082, hQ2082, l2082, y2082, z2082⟩, st2082⟩ := X1.virtualBack hx (y := (⟨"com/example/quayside/quayside/Row", "size", "()I"⟩ : MethodName)) (z := (⟨"com/example/quayside/quayside/Row", "size", "()I"⟩ : MethodName)) hown (mvT hZ (hw _ (List.mem_of_getElem? (i := 40) rfl))) (mvT hZ (hw _ (List.mem_of_getElem? (i := 41) rfl))) (notFace_of_selects (args := #[]) (mvT hZ (hw _ (List.mem_of_getElem? (i := 43) rfl)))) (mvT hZ (hw _ (List.mem_of_getElem? (i := 43) rfl))) (mvT hZ (hw _ (List.mem_of_getElem? (i := 42) rfl))) (by decide) (backOf (W := 0) (rm7 l Z a0 hw [] x o k cap f h1 n0 Z1 row) hZ (hw _ (List.mem_of_getElem? (i := 44) rfl)) (hw _ (List.mem_of_getElem? (i := 3) rfl)) (by decide) (by decide)) q2082a q2082c (g := (mkF m 234 #[.val (.int p0), .val (.int p1), .val (.int p2), .val (.int p3), .val (.int i4), .val (.int i5), .val (.int (Int32.ofNat n2)), .val (.ref x), .val (.ref o), .val (.int (Int32.ofNat k)), .val (.int (Int32.ofNat k)), .unset] [(.ref o)])) rfl (by rw [hml]; rfl) (Steps.refl _) (argsL := []) (rest := []) (lenOf pd_6 rfl) rfl (by show 2 * 0 + _ ≤ _; exact Nat.le_of_eq rfl) (own_hb hby at_234) (fun _ _ => ⟨rfl, e1, (by decide : 29 + 0 ≤ _), (by decide : 159 + 0 ≤ _)⟩)
  dsimp only [Pt.U, Pt.locs, Pt.cells, Pt.slots] at X2082 l2082 y2082 z2082 st2082 hQ2082
  subst l2082 y2082 z2082
  obtain ⟨rfl, N2082q, hh2082⟩ := hQ2082
  have N2082 := Fr.app N1 N2082q
  refine own_Go.of (S' := (T2082.setTop (mkF m 237 #[.val (.int p0), .val (.int p1), .val (.int p2), .val (.int p3), .val (.int i4), .val (.int i5), .val (.int (Int32.ofNat n2)), .val (.ref x), .val (.ref o), .val (.int (Int32.ofNat k)), .val (.int (Int32.ofNat k)), .unset] [(.int (Int32.ofNat k))]))) (fun t kt => st2082.trans kt) ?_
  refine own_Go.of (S' := (T2082.setTop (mkF m 248 #[.val (.int p0), .val (.int p1), .val (.int p2), .val (.int p3), .val (.int i4), .val (.int i5), .val (.int (Int32.ofNat n2)), .val (.ref x), .val (.ref o), .val (.int (Int32.ofNat k)), .val (.int (Int32.ofNat k)), .unset] [(.int (p3 &&& (2147483647 : Int32)))]))) (fun t kt => ?_) ?_
  · show Steps p.tables e below (T2082.setTop (mkF m 237 #[.val (.int p0), .val (.int p1), .val (.int p2), .val (.int p3), .val (.int i4), .val (.int i5), .val (.int (Int32.ofNat n2)), .val (.ref x), .val (.ref o), .val (.int (Int32.ofNat k)), .val (.int (Int32.ofNat k)), .unset] [(.int (Int32.ofNat k))])) _
    refine XS.iload X2082.here hx rfl (own_hb hby at_237) rfl ?_
    show Steps p.tables e below (T2082.setTop (mkF m 239 #[.val (.int p0), .val (.int p1), .val (.int p2), .val (.int p3), .val (.int i4), .val (.int i5), .val (.int (Int32.ofNat n2)), .val (.ref x), .val (.ref o), .val (.int (Int32.ofNat k)), .val (.int (Int32.ofNat k)), .unset] [(.int (Int32.ofNat k)), (.int (Int32.ofNat k))])) _
    refine XS.icmpYes X2082.here hx rfl (pc0 := 239) (pc' := 244) rfl (own_hb hby at_239) rfl (teq (rfl : (Int32.ofNat k) = (Int32.ofNat k))).1 (by decide) (by decide) ?_
    show Steps p.tables e below (T2082.setTop (mkF m 244 #[.val (.int p0), .val (.int p1), .val (.int p2), .val (.int p3), .val (.int i4), .val (.int i5), .val (.int (Int32.ofNat n2)), .val (.ref x), .val (.ref o), .val (.int (Int32.ofNat k)), .val (.int (Int32.ofNat k)), .unset] [])) _
    refine XS.iloadN X2082.here hx rfl (own_hb hby at_244) rfl ?_
    show Steps p.tables e below (T2082.setTop (mkF m 245 #[.val (.int p0), .val (.int p1), .val (.int p2), .val (.int p3), .val (.int i4), .val (.int i5), .val (.int (Int32.ofNat n2)), .val (.ref x), .val (.ref o), .val (.int (Int32.ofNat k)), .val (.int (Int32.ofNat k)), .unset] [(.int p3)])) _
    refine X2082.ldcInt hx hown (mvT hZ (hw _ (List.mem_of_getElem? (i := 45) rfl))) (g := (mkF m 245 #[.val (.int p0), .val (.int p1), .val (.int p2), .val (.int p3), .val (.int i4), .val (.int i5), .val (.int (Int32.ofNat n2)), .val (.ref x), .val (.ref o), .val (.int (Int32.ofNat k)), .val (.int (Int32.ofNat k)), .unset] [(.int p3)])) rfl (own_hb hby at_245) _ ?_
    show Steps p.tables e below (T2082.setTop (mkF m 247 #[.val (.int p0), .val (.int p1), .val (.int p2), .val (.int p3), .val (.int i4), .val (.int i5), .val (.int (Int32.ofNat n2)), .val (.ref x), .val (.ref o), .val (.int (Int32.ofNat k)), .val (.int (Int32.ofNat k)), .unset] [(.int (2147483647 : Int32)), (.int p3)])) _
    refine XS.iand X2082.here hx rfl (own_hb hby at_247) rfl ?_
    exact kt
  obtain ⟨mm, hmm, emm⟩ : ∃ n : Nat, n ≤ 2147483647 ∧ (p3 &&& (2147483647 : Int32)) = Int32.ofNat n := own_mask _ 2147483647
  have hmod : mm % k < k := Nat.mod_lt _ (by omega)
  refine own_Go.of (S' := (T2082.setTop (mkF m 257 #[.val (.int p0), .val (.int p1), .val (.int p2), .val (.int p3), .val (.int i4), .val (.int i5), .val (.int (Int32.ofNat n2)), .val (.ref x), .val (.ref o), .val (.int (Int32.ofNat k)), .val (.int (Int32.ofNat k)), .val (.int (Int32.ofNat (mm % k)))] [(.int (Int32.ofNat (mm % k))), (.ref o)]))) (fun t kt => ?_) ?_
  · show Steps p.tables e below (T2082.setTop (mkF m 248 #[.val (.int p0), .val (.int p1), .val (.int p2), .val (.int p3), .val (.int i4), .val (.int i5), .val (.int (Int32.ofNat n2)), .val (.ref x), .val (.ref o), .val (.int (Int32.ofNat k)), .val (.int (Int32.ofNat k)), .unset] [(.int (p3 &&& (2147483647 : Int32)))])) _
    rw [emm]
    show Steps p.tables e below (T2082.setTop (mkF m 248 #[.val (.int p0), .val (.int p1), .val (.int p2), .val (.int p3), .val (.int i4), .val (.int i5), .val (.int (Int32.ofNat n2)), .val (.ref x), .val (.ref o), .val (.int (Int32.ofNat k)), .val (.int (Int32.ofNat k)), .unset] [(.int (Int32.ofNat mm))])) _
    refine XS.iload X2082.here hx rfl (own_hb hby at_248) rfl ?_
    show Steps p.tables e below (T2082.setTop (mkF m 250 #[.val (.int p0), .val (.int p1), .val (.int p2), .val (.int p3), .val (.int i4), .val (.int i5), .val (.int (Int32.ofNat n2)), .val (.ref x), .val (.ref o), .val (.int (Int32.ofNat k)), .val (.int (Int32.ofNat k)), .unset] [(.int (Int32.ofNat k)), (.int (Int32.ofNat mm))])) _
    refine XS.irem X2082.here hx rfl (own_hb hby at_250) rfl (own_nzN (by omega) (by omega)) ?_
    show Steps p.tables e below (T2082.setTop (mkF m 251 #[.val (.int p0), .val (.int p1), .val (.int p2), .val (.int p3), .val (.int i4), .val (.int i5), .val (.int (Int32.ofNat n2)), .val (.ref x), .val (.ref o), .val (.int (Int32.ofNat k)), .val (.int (Int32.ofNat k)), .unset] [(.int ((Int32.ofNat mm) - ((Int32.ofNat mm) / (Int32.ofNat k)) * (Int32.ofNat k)))])) _
    rw [own_remN (a := mm) (b := k) (by omega) (by omega)]
    show Steps p.tables e below (T2082.setTop (mkF m 251 #[.val (.int p0), .val (.int p1), .val (.int p2), .val (.int p3), .val (.int i4), .val (.int i5), .val (.int (Int32.ofNat n2)), .val (.ref x), .val (.ref o), .val (.int (Int32.ofNat k)), .val (.int (Int32.ofNat k)), .unset] [(.int (Int32.ofNat (mm % k)))])) _
    refine XS.istore X2082.here hx rfl (own_hb hby at_251) rfl (l' := #[.val (.int p0), .val (.int p1), .val (.int p2), .val (.int p3), .val (.int i4), .val (.int i5), .val (.int (Int32.ofNat n2)), .val (.ref x), .val (.ref o), .val (.int (Int32.ofNat k)), .val (.int (Int32.ofNat k)), .val (.int (Int32.ofNat (mm % k)))]) rfl ?_
    show Steps p.tables e below (T2082.setTop (mkF m 253 #[.val (.int p0), .val (.int p1), .val (.int p2), .val (.int p3), .val (.int i4), .val (.int i5), .val (.int (Int32.ofNat n2)), .val (.ref x), .val (.ref o), .val (.int (Int32.ofNat k)), .val (.int (Int32.ofNat k)), .val (.int (Int32.ofNat (mm % k)))] [])) _
    refine XS.aload X2082.here hx rfl (own_hb hby at_253) rfl rfl ?_
    show Steps p.tables e below (T2082.setTop (mkF m 255 #[.val (.int p0), .val (.int p1), .val (.int p2), .val (.int p3), .val (.int i4), .val (.int i5), .val (.int (Int32.ofNat n2)), .val (.ref x), .val (.ref o), .val (.int (Int32.ofNat k)), .val (.int (Int32.ofNat k)), .val (.int (Int32.ofNat (mm % k)))] [(.ref o)])) _
    refine XS.iload X2082.here hx rfl (own_hb hby at_255) rfl ?_
    exact kt
  obtain ⟨cq2083, kq2083, q2083a, q2083b, q2083c⟩ := isOf hZ hh2082 row.exa
  obtain ⟨_, _, ⟨T2083, L2083, k2083, n2083⟩, -, X2083, ⟨Lc2083, hQ2083, l2083, y2083, z2083⟩, st2083⟩ := X2082.virtualBack hx (y := (⟨"com/example/quayside/quayside/Row", "isNull", "(I)Z"⟩ : MethodName)) (z := (⟨"com/example/quayside/quayside/Row", "isNull", "(I)Z"⟩ : MethodName)) hown (mvT hZ (hw _ (List.mem_of_getElem? (i := 46) rfl))) (mvT hZ (hw _ (List.mem_of_getElem? (i := 47) rfl))) (notFace_of_selects (args := #[]) (mvT hZ (hw _ (List.mem_of_getElem? (i := 49) rfl)))) (mvT hZ (hw _ (List.mem_of_getElem? (i := 49) rfl))) (mvT hZ (hw _ (List.mem_of_getElem? (i := 48) rfl))) (by decide) (backOf (W := 0) (rm8 l Z a0 hw [] x o k cap f (mm % k) h1 n0 Z1 row hmod) hZ (hw _ (List.mem_of_getElem? (i := 50) rfl)) (hw _ (List.mem_of_getElem? (i := 3) rfl)) (by decide) (by decide)) q2083a q2083c (g := (mkF m 257 #[.val (.int p0), .val (.int p1), .val (.int p2), .val (.int p3), .val (.int i4), .val (.int i5), .val (.int (Int32.ofNat n2)), .val (.ref x), .val (.ref o), .val (.int (Int32.ofNat k)), .val (.int (Int32.ofNat k)), .val (.int (Int32.ofNat (mm % k)))] [(.int (Int32.ofNat (mm % k))), (.ref o)])) rfl (by rw [hml]; rfl) (Steps.refl _) (argsL := [(.int (Int32.ofNat (mm % k)))]) (rest := []) (lenOf pd_7 rfl) rfl (by show 2 * 0 + _ ≤ _; exact Nat.le_of_eq rfl) (own_hb hby at_257) (fun _ _ => ⟨rfl, hh2082, (by decide : 29 + 0 ≤ _), (by decide : 159 + 0 ≤ _)⟩)
  dsimp only [Pt.U, Pt.locs, Pt.cells, Pt.slots] at X2083 l2083 y2083 z2083 st2083 hQ2083
  subst l2083 y2083 z2083
  obtain ⟨rfl, N2083q, hh2083⟩ := hQ2083
  have N2083 := Fr.app N2082 N2083q
  refine own_Go.of (S' := (T2083.setTop (mkF m 260 #[.val (.int p0), .val (.int p1), .val (.int p2), .val (.int p3), .val (.int i4), .val (.int i5), .val (.int (Int32.ofNat n2)), .val (.ref x), .val (.ref o), .val (.int (Int32.ofNat k)), .val (.int (Int32.ofNat k)), .val (.int (Int32.ofNat (mm % k)))] [(.int (f (mm % k)))]))) (fun t kt => st2083.trans kt) ?_
  refine own_Go.of (S' := (T2083.setTop (mkF m 264 #[.val (.int p0), .val (.int p1), .val (.int p2), .val (.int p3), .val (.int i4), .val (.int i5), .val (.int (Int32.ofNat n2)), .val (.ref x), .val (.ref o), .val (.int (Int32.ofNat k)), .val (.int (Int32.ofNat k)), .val (.int (Int32.ofNat (mm % k)))] [(.int (Int32.ofNat (mm % k))), (.ref x), (.int (f (mm % k)))]))) (fun t kt => ?_) ?_
  · show Steps p.tables e below (T2083.setTop (mkF m 260 #[.val (.int p0), .val (.int p1), .val (.int p2), .val (.int p3), .val (.int i4), .val (.int i5), .val (.int (Int32.ofNat n2)), .val (.ref x), .val (.ref o), .val (.int (Int32.ofNat k)), .val (.int (Int32.ofNat k)), .val (.int (Int32.ofNat (mm % k)))] [(.int (f (mm % k)))])) _
    refine XS.aload X2083.here hx rfl (own_hb hby at_260) rfl rfl ?_
    show Steps p.tables e below (T2083.setTop (mkF m 262 #[.val (.int p0), .val (.int p1), .val (.int p2), .val (.int p3), .val (.int i4), .val (.int i5), .val (.int (Int32.ofNat n2)), .val (.ref x), .val (.ref o), .val (.int (Int32.ofNat k)), .val (.int (Int32.ofNat k)), .val (.int (Int32.ofNat (mm % k)))] [(.ref x), (.int (f (mm % k)))])) _
    refine XS.iload X2083.here hx rfl (own_hb hby at_262) rfl ?_
    exact kt
  obtain ⟨cl2084, Ar2084, hin2084, hat2084⟩ := own_Ar.get (j := (Int32.ofNat (mm % k))) (k := mm % k) pr1 ⟨rfl, by omega⟩
  refine own_Go.of (S' := (T2083.setTop (mkF m 273 #[.val (.int p0), .val (.int p1), .val (.int p2), .val (.int p3), .val (.int i4), .val (.int i5), .val (.int (Int32.ofNat n2)), .val (.ref x), .val (.ref o), .val (.int (Int32.ofNat k)), .val (.int (Int32.ofNat k)), .val (.int (Int32.ofNat (mm % k)))] [(.int (1 : Int32))]))) (fun t kt => ?_) ?_
  · show Steps p.tables e below (T2083.setTop (mkF m 264 #[.val (.int p0), .val (.int p1), .val (.int p2), .val (.int p3), .val (.int i4), .val (.int i5), .val (.int (Int32.ofNat n2)), .val (.ref x), .val (.ref o), .val (.int (Int32.ofNat k)), .val (.int (Int32.ofNat k)), .val (.int (Int32.ofNat (mm % k)))] [(.int (Int32.ofNat (mm % k))), (.ref x), (.int (f (mm % k)))])) _
    refine X2083.baloadBooleans hx (j := (Int32.ofNat (mm % k))) (v := (.int (f (mm % k)))) (by rw [hh2083]; exact Ar2084.1) (State.isArrayOf_alike hZ.alike Ar2084.2.1) Ar2084.2.2 hin2084 hat2084 (g := (mkF m 264 #[.val (.int p0), .val (.int p1), .val (.int p2), .val (.int p3), .val (.int i4), .val (.int i5), .val (.int (Int32.ofNat n2)), .val (.ref x), .val (.ref o), .val (.int (Int32.ofNat k)), .val (.int (Int32.ofNat k)), .val (.int (Int32.ofNat (mm % k)))] [(.int (Int32.ofNat (mm % k))), (.ref x), (.int (f (mm % k)))])) rfl rfl (own_hb hby at_264) _ ?_
    show Steps p.tables e below (T2083.setTop (mkF m 265 #[.val (.int p0), .val (.int p1), .val (.int p2), .val (.int p3), .val (.int i4), .val (.int i5), .val (.int (Int32.ofNat n2)), .val (.ref x), .val (.ref o), .val (.int (Int32.ofNat k)), .val (.int (Int32.ofNat k)), .val (.int (Int32.ofNat (mm % k)))] [(.int (f (mm % k))), (.int (f (mm % k)))])) _
    refine XS.icmpNo X2083.here hx rfl (own_hb hby at_265) rfl (teq (rfl : (f (mm % k)) = (f (mm % k)))).2 ?_
    show Steps p.tables e below (T2083.setTop (mkF m 268 #[.val (.int p0), .val (.int p1), .val (.int p2), .val (.int p3), .val (.int i4), .val (.int i5), .val (.int (Int32.ofNat n2)), .val (.ref x), .val (.ref o), .val (.int (Int32.ofNat k)), .val (.int (Int32.ofNat k)), .val (.int (Int32.ofNat (mm % k)))] [])) _
    refine XS.iconst X2083.here hx rfl (own_hb hby at_268) ?_
    show Steps p.tables e below (T2083.setTop (mkF m 269 #[.val (.int p0), .val (.int p1), .val (.int p2), .val (.int p3), .val (.int i4), .val (.int i5), .val (.int (Int32.ofNat n2)), .val (.ref x), .val (.ref o), .val (.int (Int32.ofNat k)), .val (.int (Int32.ofNat k)), .val (.int (Int32.ofNat (mm % k)))] [(.int (1 : Int32))])) _
    refine XS.goto X2083.here hx rfl (pc0 := 269) (pc' := 273) rfl (own_hb hby at_269) (by decide) (by decide) ?_
    exact kt
  exact own_retN X2083 hx hlk (t := .boolean) hret (by simp) (own_hb hby at_273) hh2083 ⟨rfl, N2083⟩ (by decide) (by decide)
theorem pd_8 : parseMethodDescriptor "(II)Z" = some ⟨[.int, .int], some .boolean⟩ := by decide +kernel
theorem pd_9 : parseMethodDescriptor "(Lcom/example/quayside/quayside/Row;[ZIZII)I" = some ⟨[(.object "com/example/quayside/quayside/Row"), (.array .boolean), .int, .boolean, .int, .int], some .int⟩ := by decide +kernel
set_option maxRecDepth 65536 in
set_option maxHeartbeats 40000000 in
theorem seg112 {p : Program} {l : Launch} {e : Env} {s : State} {m : MethodId} {below : List Frame} {meth : Method} {c : Code} {Z : State} {a0 : Array Value} (hw : ∀ d ∈ tables_1, d.before a0 Z = true) (hx : p.tables.exec = Jvm.exec) (hZ : Z.Warmed39 s.vm) (hby : c.code = code) (hml : c.maxLocals = 12) (hret : meth.sig.returnType = ret) (hlk : meth.locks = false) (hown : s.vm.findClass "com/example/quayside/quayside/RowIsNullPinLaw" = some m.cls) (hnm : meth.name = "law") (p0 : Int32) (p1 : Int32) (p2 : Int32) (p3 : Int32) (h0 : Heap) (n0 : Nat) (x : Addr) (o : Addr) (k : Nat) (f : Nat → Int32) (i4 : Int32) (i5 : Int32) (n2 : Nat)
    {T1 : State} {h1 : Heap} {locs : List Loc} (X1 : Stand p l e room_1 s m #[(.int p0), (.int p1), (.int p2), (.int p3)] below meth c T1 locs 9 39) (e1 : T1.heap = h1) (N1 : Fr n0 locs) (Z1 : n0 ≤ h1.size) (row : own_Row Z h1 n0 x o k 4 f) (pr1 : own_Ar Z h1 x .boolean 7 (own_I f)) (pr2 : n0 ≤ x) (hk2 : k ≤ 2) (hn2 : n2 ≤ 5) :
    own_Go p e below (T1.setTop (mkF m 112 #[.val (.int p0), .val (.int p1), .val (.int p2), .val (.int p3), .val (.int i4), .val (.int i5), .val (.int (Int32.ofNat n2)), .val (.ref x), .val (.ref o), .val (.int (Int32.ofNat k)), .unset, .unset] [])) (own_End s (Q_rm0 Z p0 p1 p2 p3 h0 n0) room_1.cells room_1.slots) := by
  refine own_Go.of (S' := (T1.setTop (mkF m 120 #[.val (.int p0), .val (.int p1), .val (.int p2), .val (.int p3), .val (.int i4), .val (.int i5), .val (.int (Int32.ofNat n2)), .val (.ref x), .val (.ref o), .val (.int (Int32.ofNat k)), .unset, .unset] [(.int (2 : Int32)), (.int p1), (.int (Int32.ofNat k)), (.ref x), (.ref o)]))) (fun t kt => ?_) ?_
  · show Steps p.tables e below (T1.setTop (mkF m 112 #[.val (.int p0), .val (.int p1), .val (.int p2), .val (.int p3), .val (.int i4), .val (.int i5), .val (.int (Int32.ofNat n2)), .val (.ref x), .val (.ref o), .val (.int (Int32.ofNat k)), .unset, .unset] [])) _
    refine XS.aload X1.here hx rfl (own_hb hby at_112) rfl rfl ?_
    show Steps p.tables e below (T1.setTop (mkF m 114 #[.val (.int p0), .val (.int p1), .val (.int p2), .val (.int p3), .val (.int i4), .val (.int i5), .val (.int (Int32.ofNat n2)), .val (.ref x), .val (.ref o), .val (.int (Int32.ofNat k)), .unset, .unset] [(.ref o)])) _
    refine XS.aload X1.here hx rfl (own_hb hby at_114) rfl rfl ?_
    show Steps p.tables e below (T1.setTop (mkF m 116 #[.val (.int p0), .val (.int p1), .val (.int p2), .val (.int p3), .val (.int i4), .val (.int i5), .val (.int (Int32.ofNat n2)), .val (.ref x), .val (.ref o), .val (.int (Int32.ofNat k)), .unset, .unset] [(.ref x), (.ref o)])) _
    refine XS.iload X1.here hx rfl (own_hb hby at_116) rfl ?_
    show Steps p.tables e below (T1.setTop (mkF m 118 #[.val (.int p0), .val (.int p1), .val (.int p2), .val (.int p3), .val (.int i4), .val (.int i5), .val (.int (Int32.ofNat n2)), .val (.ref x), .val (.ref o), .val (.int (Int32.ofNat k)), .unset, .unset] [(.int (Int32.ofNat k)), (.ref x), (.ref o)])) _
    refine XS.iloadN X1.here hx rfl (own_hb hby at_118) rfl ?_
    show Steps p.tables e below (T1.setTop (mkF m 119 #[.val (.int p0), .val (.int p1), .val (.int p2), .val (.int p3), .val (.int i4), .val (.int i5), .val (.int (Int32.ofNat n2)), .val (.ref x), .val (.ref o), .val (.int (Int32.ofNat k)), .unset, .unset] [(.int p1), (.int (Int32.ofNat k)), (.ref x), (.ref o)])) _
    refine XS.iconst X1.here hx rfl (own_hb hby at_119) ?_
    exact kt
  obtain ⟨_, _, ⟨T2085, L2085, k2085, n2085⟩, -, X2085, ⟨Lc2085, hQ2085, l2085, y2085, z2085⟩, st2085⟩ := Jvm.LawKit.callS X1 hx (y := (⟨"com/example/quayside/quayside/RowIsNullPinLaw", "bit", "(II)Z"⟩ : MethodName)) hown (mvT hZ (hw _ (List.mem_of_getElem? (i := 18) rfl))) (mvT hZ (hw _ (List.mem_of_getElem? (i := 19) rfl))) (mvT hZ (hw _ (List.mem_of_getElem? (i := 20) rfl))) (mvT hZ (hw _ (List.mem_of_getElem? (i := 21) rfl))) (by decide) (backOf (W := 3) (rm3 l Z a0 hw [] p1 (2 : Int32) h1 n0 Z1 ) hZ (hw _ (List.mem_of_getElem? (i := 21) rfl)) (hw _ (List.mem_of_getElem? (i := 20) rfl)) (by decide) (by decide)) (g := (mkF m 120 #[.val (.int p0), .val (.int p1), .val (.int p2), .val (.int p3), .val (.int i4), .val (.int i5), .val (.int (Int32.ofNat n2)), .val (.ref x), .val (.ref o), .val (.int (Int32.ofNat k)), .unset, .unset] [(.int (2 : Int32)), (.int p1), (.int (Int32.ofNat k)), (.ref x), (.ref o)])) rfl (by rw [hml]; rfl) (argsL := [(.int p1), (.int (2 : Int32))]) (rest := [(.int (Int32.ofNat k)), (.ref x), (.ref o)]) (lenOf pd_8 rfl) rfl (by show 2 * 0 + _ ≤ _; exact Nat.le_of_eq rfl) (own_hb hby at_120) (fun _ _ => ⟨rfl, e1, (by decide : 9 + 0 ≤ _), (by decide : 39 + 0 ≤ _)⟩)
  dsimp only [Pt.U, Pt.locs, Pt.cells, Pt.slots] at X2085 l2085 y2085 z2085 st2085 hQ2085
  subst l2085 y2085 z2085
  obtain ⟨rfl, N2085q, hh2085⟩ := hQ2085
  have N2085 := Fr.app N1 N2085q
  refine own_Go.of (S' := (T2085.setTop (mkF m 123 #[.val (.int p0), .val (.int p1), .val (.int p2), .val (.int p3), .val (.int i4), .val (.int i5), .val (.int (Int32.ofNat n2)), .val (.ref x), .val (.ref o), .val (.int (Int32.ofNat k)), .unset, .unset] [(.int (own_bit p1 (2 : Int32))), (.int (Int32.ofNat k)), (.ref x), (.ref o)]))) (fun t kt => st2085 t kt) ?_
  refine own_Go.of (S' := (T2085.setTop (mkF m 125 #[.val (.int p0), .val (.int p1), .val (.int p2), .val (.int p3), .val (.int i4), .val (.int i5), .val (.int (Int32.ofNat n2)), .val (.ref x), .val (.ref o), .val (.int (Int32.ofNat k)), .unset, .unset] [(.int (2 : Int32)), (.int p2), (.int (own_bit p1 (2 : Int32))), (.int (Int32.ofNat k)), (.ref x), (.ref o)]))) (fun t kt => ?_) ?_
  · show Steps p.tables e below (T2085.setTop (mkF m 123 #[.val (.int p0), .val (.int p1), .val (.int p2), .val (.int p3), .val (.int i4), .val (.int i5), .val (.int (Int32.ofNat n2)), .val (.ref x), .val (.ref o), .val (.int (Int32.ofNat k)), .unset, .unset] [(.int (own_bit p1 (2 : Int32))), (.int (Int32.ofNat k)), (.ref x), (.ref o)])) _
    refine XS.iloadN X2085.here hx rfl (own_hb hby at_123) rfl ?_
    show Steps p.tables e below (T2085.setTop (mkF m 124 #[.val (.int p0), .val (.int p1), .val (.int p2), .val (.int p3), .val (.int i4), .val (.int i5), .val (.int (Int32.ofNat n2)), .val (.ref x), .val (.ref o), .val (.int (Int32.ofNat k)), .unset, .unset] [(.int p2), (.int (own_bit p1 (2 : Int32))), (.int (Int32.ofNat k)), (.ref x), (.ref o)])) _
    refine XS.iconst X2085.here hx rfl (own_hb hby at_124) ?_
    exact kt
  obtain ⟨_, _, ⟨T2086, L2086, k2086, n2086⟩, -, X2086, ⟨Lc2086, hQ2086, l2086, y2086, z2086⟩, st2086⟩ := Jvm.LawKit.callS X2085 hx (y := (⟨"com/example/quayside/quayside/RowIsNullPinLaw", "put", "(Lcom/example/quayside/quayside/Row;[ZIZII)I"⟩ : MethodName)) hown (mvT hZ (hw _ (List.mem_of_getElem? (i := 22) rfl))) (mvT hZ (hw _ (List.mem_of_getElem? (i := 23) rfl))) (mvT hZ (hw _ (List.mem_of_getElem? (i := 20) rfl))) (mvT hZ (hw _ (List.mem_of_getElem? (i := 24) rfl))) (by decide) (backOf (W := 0) (rm4g l Z a0 hw [] o x k (own_bit p1 (2 : Int32)) p2 (2 : Int32) 4 f h1 n0 Z1 row pr1 pr2 (own_bit01 p1 (2 : Int32)) (by omega) (by omega)) hZ (hw _ (List.mem_of_getElem? (i := 24) rfl)) (hw _ (List.mem_of_getElem? (i := 20) rfl)) (by decide) (by decide)) (g := (mkF m 125 #[.val (.int p0), .val (.int p1), .val (.int p2), .val (.int p3), .val (.int i4), .val (.int i5), .val (.int (Int32.ofNat n2)), .val (.ref x), .val (.ref o), .val (.int (Int32.ofNat k)), .unset, .unset] [(.int (2 : Int32)), (.int p2), (.int (own_bit p1 (2 : Int32))), (.int (Int32.ofNat k)), (.ref x), (.ref o)])) rfl (by rw [hml]; rfl) (argsL := [(.ref o), (.ref x), (.int (Int32.ofNat k)), (.int (own_bit p1 (2 : Int32))), (.int p2), (.int (2 : Int32))]) (rest := []) (lenOf pd_9 rfl) rfl (by show 2 * 0 + _ ≤ _; exact Nat.le_of_eq rfl) (own_hb hby at_125) (fun _ _ => ⟨rfl, hh2085, (by decide : 9 + 4 ≤ _), (by decide : 39 + 24 ≤ _)⟩)
  dsimp only [Pt.U, Pt.locs, Pt.cells, Pt.slots] at X2086 l2086 y2086 z2086 st2086 hQ2086
  subst l2086 y2086 z2086
  obtain ⟨cap'2086, rfl, N2086q, K2086, p2086_0, p2086_1⟩ := hQ2086
  have N2086 := Fr.app N2085 N2086q
  refine own_Go.of (S' := (T2086.setTop (mkF m 128 #[.val (.int p0), .val (.int p1), .val (.int p2), .val (.int p3), .val (.int i4), .val (.int i5), .val (.int (Int32.ofNat n2)), .val (.ref x), .val (.ref o), .val (.int (Int32.ofNat k)), .unset, .unset] [(.int (Int32.ofNat (k + 1)))]))) (fun t kt => st2086 t kt) ?_
  have z2087 : n0 ≤ T2086.heap.size := Nat.le_trans Z1 K2086
  refine own_Go.of (S' := (T2086.setTop (mkF m 133 #[.val (.int p0), .val (.int p1), .val (.int p2), .val (.int p3), .val (.int i4), .val (.int i5), .val (.int (Int32.ofNat n2)), .val (.ref x), .val (.ref o), .val (.int (Int32.ofNat (k + 1))), .unset, .unset] [(.int (1 : Int32)), (.int (Int32.ofNat n2))]))) (fun t kt => ?_) ?_
  · show Steps p.tables e below (T2086.setTop (mkF m 128 #[.val (.int p0), .val (.int p1), .val (.int p2), .val (.int p3), .val (.int i4), .val (.int i5), .val (.int (Int32.ofNat n2)), .val (.ref x), .val (.ref o), .val (.int (Int32.ofNat k)), .unset, .unset] [(.int (Int32.ofNat (k + 1)))])) _
    refine XS.istore X2086.here hx rfl (own_hb hby at_128) rfl (l' := #[.val (.int p0), .val (.int p1), .val (.int p2), .val (.int p3), .val (.int i4), .val (.int i5), .val (.int (Int32.ofNat n2)), .val (.ref x), .val (.ref o), .val (.int (Int32.ofNat (k + 1))), .unset, .unset]) rfl ?_
    show Steps p.tables e below (T2086.setTop (mkF m 130 #[.val (.int p0), .val (.int p1), .val (.int p2), .val (.int p3), .val (.int i4), .val (.int i5), .val (.int (Int32.ofNat n2)), .val (.ref x), .val (.ref o), .val (.int (Int32.ofNat (k + 1))), .unset, .unset] [])) _
    refine XS.iload X2086.here hx rfl (own_hb hby at_130) rfl ?_
    show Steps p.tables e below (T2086.setTop (mkF m 132 #[.val (.int p0), .val (.int p1), .val (.int p2), .val (.int p3), .val (.int i4), .val (.int i5), .val (.int (Int32.ofNat n2)), .val (.ref x), .val (.ref o), .val (.int (Int32.ofNat (k + 1))), .unset, .unset] [(.int (Int32.ofNat n2))])) _
    refine XS.iconst X2086.here hx rfl (own_hb hby at_132) ?_
    exact kt
  by_cases hc133_2088 : 1 < n2
  · skip
    refine own_Go.of (S' := (T2086.setTop (mkF m 144 #[.val (.int p0), .val (.int p1), .val (.int p2), .val (.int p3), .val (.int i4), .val (.int i5), .val (.int (Int32.ofNat n2)), .val (.ref x), .val (.ref o), .val (.int (Int32.ofNat (k + 1))), .unset, .unset] [(.int (3 : Int32)), (.int p1), (.int (Int32.ofNat (k + 1))), (.ref x), (.ref o)]))) (fun t kt => ?_) ?_
    · show Steps p.tables e below (T2086.setTop (mkF m 133 #[.val (.int p0), .val (.int p1), .val (.int p2), .val (.int p3), .val (.int i4), .val (.int i5), .val (.int (Int32.ofNat n2)), .val (.ref x), .val (.ref o), .val (.int (Int32.ofNat (k + 1))), .unset, .unset] [(.int (1 : Int32)), (.int (Int32.ofNat n2))])) _
      refine XS.icmpNo X2086.here hx rfl (own_hb hby at_133) rfl (tlt ((own_ltN (by omega) (by omega)).mpr hc133_2088)).2.2.2 ?_
      show Steps p.tables e below (T2086.setTop (mkF m 136 #[.val (.int p0), .val (.int p1), .val (.int p2), .val (.int p3), .val (.int i4), .val (.int i5), .val (.int (Int32.ofNat n2)), .val (.ref x), .val (.ref o), .val (.int (Int32.ofNat (k + 1))), .unset, .unset] [])) _
      refine XS.aload X2086.here hx rfl (own_hb hby at_136) rfl rfl ?_
      show Steps p.tables e below (T2086.setTop (mkF m 138 #[.val (.int p0), .val (.int p1), .val (.int p2), .val (.int p3), .val (.int i4), .val (.int i5), .val (.int (Int32.ofNat n2)), .val (.ref x), .val (.ref o), .val (.int (Int32.ofNat (k + 1))), .unset, .unset] [(.ref o)])) _
      refine XS.aload X2086.here hx rfl (own_hb hby at_138) rfl rfl ?_
      show Steps p.tables e below (T2086.setTop (mkF m 140 #[.val (.int p0), .val (.int p1), .val (.int p2), .val (.int p3), .val (.int i4), .val (.int i5), .val (.int (Int32.ofNat n2)), .val (.ref x), .val (.ref o), .val (.int (Int32.ofNat (k + 1))), .unset, .unset] [(.ref x), (.ref o)])) _
      refine XS.iload X2086.here hx rfl (own_hb hby at_140) rfl ?_
      show Steps p.tables e below (T2086.setTop (mkF m 142 #[.val (.int p0), .val (.int p1), .val (.int p2), .val (.int p3), .val (.int i4), .val (.int i5), .val (.int (Int32.ofNat n2)), .val (.ref x), .val (.ref o), .val (.int (Int32.ofNat (k + 1))), .unset, .unset] [(.int (Int32.ofNat (k + 1))), (.ref x), (.ref o)])) _
      refine XS.iloadN X2086.here hx rfl (own_hb hby at_142) rfl ?_
      show Steps p.tables e below (T2086.setTop (mkF m 143 #[.val (.int p0), .val (.int p1), .val (.int p2), .val (.int p3), .val (.int i4), .val (.int i5), .val (.int (Int32.ofNat n2)), .val (.ref x), .val (.ref o), .val (.int (Int32.ofNat (k + 1))), .unset, .unset] [(.int p1), (.int (Int32.ofNat (k + 1))), (.ref x), (.ref o)])) _
      refine XS.iconst X2086.here hx rfl (own_hb hby at_143) ?_
      exact kt
    obtain ⟨_, _, ⟨T2089, L2089, k2089, n2089⟩, -, X2089, ⟨Lc2089, hQ2089, l2089, y2089, z2089⟩, st2089⟩ := Jvm.LawKit.callS X2086 hx (y := (⟨"com/example/quayside/quayside/RowIsNullPinLaw", "bit", "(II)Z"⟩ : MethodName)) hown (mvT hZ (hw _ (List.mem_of_getElem? (i := 18) rfl))) (mvT hZ (hw _ (List.mem_of_getElem? (i := 19) rfl))) (mvT hZ (hw _ (List.mem_of_getElem? (i := 20) rfl))) (mvT hZ (hw _ (List.mem_of_getElem? (i := 21) rfl))) (by decide) (backOf (W := 3) (rm3 l Z a0 hw [] p1 (3 : Int32) T2086.heap n0 z2087 ) hZ (hw _ (List.mem_of_getElem? (i := 21) rfl)) (hw _ (List.mem_of_getElem? (i := 20) rfl)) (by decide) (by decide)) (g := (mkF m 144 #[.val (.int p0), .val (.int p1), .val (.int p2), .val (.int p3), .val (.int i4), .val (.int i5), .val (.int (Int32.ofNat n2)), .val (.ref x), .val (.ref o), .val (.int (Int32.ofNat (k + 1))), .unset, .unset] [(.int (3 : Int32)), (.int p1), (.int (Int32.ofNat (k + 1))), (.ref x), (.ref o)])) rfl (by rw [hml]; rfl) (argsL := [(.int p1), (.int (3 : Int32))]) (rest := [(.int (Int32.ofNat (k + 1))), (.ref x), (.ref o)]) (lenOf pd_8 rfl) rfl (by show 2 * 0 + _ ≤ _; exact Nat.le_of_eq rfl) (own_hb hby at_144) (fun _ _ => ⟨rfl, rfl, (by decide : 13 + 0 ≤ _), (by decide : 63 + 0 ≤ _)⟩)
    dsimp only [Pt.U, Pt.locs, Pt.cells, Pt.slots] at X2089 l2089 y2089 z2089 st2089 hQ2089
    subst l2089 y2089 z2089
    obtain ⟨rfl, N2089q, hh2089⟩ := hQ2089
    have N2089 := Fr.app N2086 N2089q
    refine own_Go.of (S' := (T2089.setTop (mkF m 147 #[.val (.int p0), .val (.int p1), .val (.int p2), .val (.int p3), .val (.int i4), .val (.int i5), .val (.int (Int32.ofNat n2)), .val (.ref x), .val (.ref o), .val (.int (Int32.ofNat (k + 1))), .unset, .unset] [(.int (own_bit p1 (3 : Int32))), (.int (Int32.ofNat (k + 1))), (.ref x), (.ref o)]))) (fun t kt => st2089 t kt) ?_
    refine own_Go.of (S' := (T2089.setTop (mkF m 149 #[.val (.int p0), .val (.int p1), .val (.int p2), .val (.int p3), .val (.int i4), .val (.int i5), .val (.int (Int32.ofNat n2)), .val (.ref x), .val (.ref o), .val (.int (Int32.ofNat (k + 1))), .unset, .unset] [(.int (3 : Int32)), (.int p2), (.int (own_bit p1 (3 : Int32))), (.int (Int32.ofNat (k + 1))), (.ref x), (.ref o)]))) (fun t kt => ?_) ?_
    · show Steps p.tables e below (T2089.setTop (mkF m 147 #[.val (.int p0), .val (.int p1), .val (.int p2), .val (.int p3), .val (.int i4), .val (.int i5), .val (.int (Int32.ofNat n2)), .val (.ref x), .val (.ref o), .val (.int (Int32.ofNat (k + 1))), .unset, .unset] [(.int (own_bit p1 (3 : Int32))), (.int (Int32.ofNat (k + 1))), (.ref x), (.ref o)])) _
      refine XS.iloadN X2089.here hx rfl (own_hb hby at_147) rfl ?_
      show Steps p.tables e below (T2089.setTop (mkF m 148 #[.val (.int p0), .val (.int p1), .val (.int p2), .val (.int p3), .val (.int i4), .val (.int i5), .val (.int (Int32.ofNat n2)), .val (.ref x), .val (.ref o), .val (.int (Int32.ofNat (k + 1))), .unset, .unset] [(.int p2), (.int (own_bit p1 (3 : Int32))), (.int (Int32.ofNat (k + 1))), (.ref x), (.ref o)])) _
      refine XS.iconst X2089.here hx rfl (own_hb hby at_148) ?_
      exact kt
    obtain ⟨_, _, ⟨T2090, L2090, k2090, n2090⟩, -, X2090, ⟨Lc2090, hQ2090, l2090, y2090, z2090⟩, st2090⟩ := Jvm.LawKit.callS X2089 hx (y := (⟨"com/example/quayside/quayside/RowIsNullPinLaw", "put", "(Lcom/example/quayside/quayside/Row;[ZIZII)I"⟩ : MethodName)) hown (mvT hZ (hw _ (List.mem_of_getElem? (i := 22) rfl))) (mvT hZ (hw _ (List.mem_of_getElem? (i := 23) rfl))) (mvT hZ (hw _ (List.mem_of_getElem? (i := 20) rfl))) (mvT hZ (hw _ (List.mem_of_getElem? (i := 24) rfl))) (by decide) (backOf (W := 0) (rm4g l Z a0 hw [] o x (k + 1) (own_bit p1 (3 : Int32)) p2 (3 : Int32) cap'2086 (own_set f k (own_bit p1 (2 : Int32))) T2086.heap n0 z2087 p2086_0 p2086_1 pr2 (own_bit01 p1 (3 : Int32)) (by omega) (by omega)) hZ (hw _ (List.mem_of_getElem? (i := 24) rfl)) (hw _ (List.mem_of_getElem? (i := 20) rfl)) (by decide) (by decide)) (g := (mkF m 149 #[.val (.int p0), .val (.int p1), .val (.int p2), .val (.int p3), .val (.int i4), .val (.int i5), .val (.int (Int32.ofNat n2)), .val (.ref x), .val (.ref o), .val (.int (Int32.ofNat (k + 1))), .unset, .unset] [(.int (3 : Int32)), (.int p2), (.int (own_bit p1 (3 : Int32))), (.int (Int32.ofNat (k + 1))), (.ref x), (.ref o)])) rfl (by rw [hml]; rfl) (argsL := [(.ref o), (.ref x), (.int (Int32.ofNat (k + 1))), (.int (own_bit p1 (3 : Int32))), (.int p2), (.int (3 : Int32))]) (rest := []) (lenOf pd_9 rfl) rfl (by show 2 * 0 + _ ≤ _; exact Nat.le_of_eq rfl) (own_hb hby at_149) (fun _ _ => ⟨rfl, hh2089, (by decide : 13 + 4 ≤ _), (by decide : 63 + 24 ≤ _)⟩)
    dsimp only [Pt.U, Pt.locs, Pt.cells, Pt.slots] at X2090 l2090 y2090 z2090 st2090 hQ2090
    subst l2090 y2090 z2090
    obtain ⟨cap'2090, rfl, N2090q, K2090, p2090_0, p2090_1⟩ := hQ2090
    have N2090 := Fr.app N2089 N2090q
    refine own_Go.of (S' := (T2090.setTop (mkF m 152 #[.val (.int p0), .val (.int p1), .val (.int p2), .val (.int p3), .val (.int i4), .val (.int i5), .val (.int (Int32.ofNat n2)), .val (.ref x), .val (.ref o), .val (.int (Int32.ofNat (k + 1))), .unset, .unset] [(.int (Int32.ofNat ((k + 1) + 1)))]))) (fun t kt => st2090 t kt) ?_
    have z2091 : n0 ≤ T2090.heap.size := Nat.le_trans z2087 K2090
    refine own_Go.of (S' := (T2090.setTop (mkF m 157 #[.val (.int p0), .val (.int p1), .val (.int p2), .val (.int p3), .val (.int i4), .val (.int i5), .val (.int (Int32.ofNat n2)), .val (.ref x), .val (.ref o), .val (.int (Int32.ofNat ((k + 1) + 1))), .unset, .unset] [(.int (2 : Int32)), (.int (Int32.ofNat n2))]))) (fun t kt => ?_) ?_
    · show Steps p.tables e below (T2090.setTop (mkF m 152 #[.val (.int p0), .val (.int p1), .val (.int p2), .val (.int p3), .val (.int i4), .val (.int i5), .val (.int (Int32.ofNat n2)), .val (.ref x), .val (.ref o), .val (.int (Int32.ofNat (k + 1))), .unset, .unset] [(.int (Int32.ofNat ((k + 1) + 1)))])) _
      refine XS.istore X2090.here hx rfl (own_hb hby at_152) rfl (l' := #[.val (.int p0), .val (.int p1), .val (.int p2), .val (.int p3), .val (.int i4), .val (.int i5), .val (.int (Int32.ofNat n2)), .val (.ref x), .val (.ref o), .val (.int (Int32.ofNat ((k + 1) + 1))), .unset, .unset]) rfl ?_
      show Steps p.tables e below (T2090.setTop (mkF m 154 #[.val (.int p0), .val (.int p1), .val (.int p2), .val (.int p3), .val (.int i4), .val (.int i5), .val (.int (Int32.ofNat n2)), .val (.ref x), .val (.ref o), .val (.int (Int32.ofNat ((k + 1) + 1))), .unset, .unset] [])) _
      refine XS.iload X2090.here hx rfl (own_hb hby at_154) rfl ?_
      show Steps p.tables e below (T2090.setTop (mkF m 156 #[.val (.int p0), .val (.int p1), .val (.int p2), .val (.int p3), .val (.int i4), .val (.int i5), .val (.int (Int32.ofNat n2)), .val (.ref x), .val (.ref o), .val (.int (Int32.ofNat ((k + 1) + 1))), .unset, .unset] [(.int (Int32.ofNat n2))])) _
      refine XS.iconst X2090.here hx rfl (own_hb hby at_156) ?_
      exact kt
    by_cases hc157_2092 : 2 < n2
    · skip
      refine own_Go.of (S' := (T2090.setTop (mkF m 168 #[.val (.int p0), .val (.int p1), .val (.int p2), .val (.int p3), .val (.int i4), .val (.int i5), .val (.int (Int32.ofNat n2)), .val (.ref x), .val (.ref o), .val (.int (Int32.ofNat ((k + 1) + 1))), .unset, .unset] [(.int (4 : Int32)), (.int p1), (.int (Int32.ofNat ((k + 1) + 1))), (.ref x), (.ref o)]))) (fun t kt => ?_) ?_
      · show Steps p.tables e below (T2090.setTop (mkF m 157 #[.val (.int p0), .val (.int p1), .val (.int p2), .val (.int p3), .val (.int i4), .val (.int i5), .val (.int (Int32.ofNat n2)), .val (.ref x), .val (.ref o), .val (.int (Int32.ofNat ((k + 1) + 1))), .unset, .unset] [(.int (2 : Int32)), (.int (Int32.ofNat n2))])) _
        refine XS.icmpNo X2090.here hx rfl (own_hb hby at_157) rfl (tlt ((own_ltN (by omega) (by omega)).mpr hc157_2092)).2.2.2 ?_
        show Steps p.tables e below (T2090.setTop (mkF m 160 #[.val (.int p0), .val (.int p1), .val (.int p2), .val (.int p3), .val (.int i4), .val (.int i5), .val (.int (Int32.ofNat n2)), .val (.ref x), .val (.ref o), .val (.int (Int32.ofNat ((k + 1) + 1))), .unset, .unset] [])) _
        refine XS.aload X2090.here hx rfl (own_hb hby at_160) rfl rfl ?_
        show Steps p.tables e below (T2090.setTop (mkF m 162 #[.val (.int p0), .val (.int p1), .val (.int p2), .val (.int p3), .val (.int i4), .val (.int i5), .val (.int (Int32.ofNat n2)), .val (.ref x), .val (.ref o), .val (.int (Int32.ofNat ((k + 1) + 1))), .unset, .unset] [(.ref o)])) _
        refine XS.aload X2090.here hx rfl (own_hb hby at_162) rfl rfl ?_
        show Steps p.tables e below (T2090.setTop (mkF m 164 #[.val (.int p0), .val (.int p1), .val (.int p2), .val (.int p3), .val (.int i4), .val (.int i5), .val (.int (Int32.ofNat n2)), .val (.ref x), .val (.ref o), .val (.int (Int32.ofNat ((k + 1) + 1))), .unset, .unset] [(.ref x), (.ref o)])) _
        refine XS.iload X2090.here hx rfl (own_hb hby at_164) rfl ?_
        show Steps p.tables e below (T2090.setTop (mkF m 166 #[.val (.int p0), .val (.int p1), .val (.int p2), .val (.int p3), .val (.int i4), .val (.int i5), .val (.int (Int32.ofNat n2)), .val (.ref x), .val (.ref o), .val (.int (Int32.ofNat ((k + 1) + 1))), .unset, .unset] [(.int (Int32.ofNat ((k + 1) + 1))), (.ref x), (.ref o)])) _
        refine XS.iloadN X2090.here hx rfl (own_hb hby at_166) rfl ?_
        show Steps p.tables e below (T2090.setTop (mkF m 167 #[.val (.int p0), .val (.int p1), .val (.int p2), .val (.int p3), .val (.int i4), .val (.int i5), .val (.int (Int32.ofNat n2)), .val (.ref x), .val (.ref o), .val (.int (Int32.ofNat ((k + 1) + 1))), .unset, .unset] [(.int p1), (.int (Int32.ofNat ((k + 1) + 1))), (.ref x), (.ref o)])) _
        refine XS.iconst X2090.here hx rfl (own_hb hby at_167) ?_
        exact kt
      obtain ⟨_, _, ⟨T2093, L2093, k2093, n2093⟩, -, X2093, ⟨Lc2093, hQ2093, l2093, y2093, z2093⟩, st2093⟩ := Jvm.LawKit.callS X2090 hx (y := (⟨"com/example/quayside/quayside/RowIsNullPinLaw", "bit", "(II)Z"⟩ : MethodName)) hown (mvT hZ (hw _ (List.mem_of_getElem? (i := 18) rfl))) (mvT hZ (hw _ (List.mem_of_getElem? (i := 19) rfl))) (mvT hZ (hw _ (List.mem_of_getElem? (i := 20) rfl))) (mvT hZ (hw _ (List.mem_of_getElem? (i := 21) rfl))) (by decide) (backOf (W := 3) (rm3 l Z a0 hw [] p1 (4 : Int32) T2090.heap n0 z2091 ) hZ (hw _ (List.mem_of_getElem? (i := 21) rfl)) (hw _ (List.mem_of_getElem? (i := 20) rfl)) (by decide) (by decide)) (g := (mkF m 168 #[.val (.int p0), .val (.int p1), .val (.int p2), .val (.int p3), .val (.int i4), .val (.int i5), .val (.int (Int32.ofNat n2)), .val (.ref x), .val (.ref o), .val (.int (Int32.ofNat ((k + 1) + 1))), .unset, .unset] [(.int (4 : Int32)), (.int p1), (.int (Int32.ofNat ((k + 1) + 1))), (.ref x), (.ref o)])) rfl (by rw [hml]; rfl) (argsL := [(.int p1), (.int (4 : Int32))]) (rest := [(.int (Int32.ofNat ((k + 1) + 1))), (.ref x), (.ref o)]) (lenOf pd_8 rfl) rfl (by show 2 * 0 + _ ≤ _; exact Nat.le_of_eq rfl) (own_hb hby at_168) (fun _ _ => ⟨rfl, rfl, (by decide : 17 + 0 ≤ _), (by decide : 87 + 0 ≤ _)⟩)
      dsimp only [Pt.U, Pt.locs, Pt.cells, Pt.slots] at X2093 l2093 y2093 z2093 st2093 hQ2093
      subst l2093 y2093 z2093
      obtain ⟨rfl, N2093q, hh2093⟩ := hQ2093
      have N2093 := Fr.app N2090 N2093q
      refine own_Go.of (S' := (T2093.setTop (mkF m 171 #[.val (.int p0), .val (.int p1), .val (.int p2), .val (.int p3), .val (.int i4), .val (.int i5), .val (.int (Int32.ofNat n2)), .val (.ref x), .val (.ref o), .val (.int (Int32.ofNat ((k + 1) + 1))), .unset, .unset] [(.int (own_bit p1 (4 : Int32))), (.int (Int32.ofNat ((k + 1) + 1))), (.ref x), (.ref o)]))) (fun t kt => st2093 t kt) ?_
      refine own_Go.of (S' := (T2093.setTop (mkF m 173 #[.val (.int p0), .val (.int p1), .val (.int p2), .val (.int p3), .val (.int i4), .val (.int i5), .val (.int (Int32.ofNat n2)), .val (.ref x), .val (.ref o), .val (.int (Int32.ofNat ((k + 1) + 1))), .unset, .unset] [(.int (4 : Int32)), (.int p2), (.int (own_bit p1 (4 : Int32))), (.int (Int32.ofNat ((k + 1) + 1))), (.ref x), (.ref o)]))) (fun t kt => ?_) ?_
      · show Steps p.tables e below (T2093.setTop (mkF m 171 #[.val (.int p0), .val (.int p1), .val (.int p2), .val (.int p3), .val (.int i4), .val (.int i5), .val (.int (Int32.ofNat n2)), .val (.ref x), .val (.ref o), .val (.int (Int32.ofNat ((k + 1) + 1))), .unset, .unset] [(.int (own_bit p1 (4 : Int32))), (.int (Int32.ofNat ((k + 1) + 1))), (.ref x), (.ref o)])) _
        refine XS.iloadN X2093.here hx rfl (own_hb hby at_171) rfl ?_
        show Steps p.tables e below (T2093.setTop (mkF m 172 #[.val (.int p0), .val (.int p1), .val (.int p2), .val (.int p3), .val (.int i4), .val (.int i5), .val (.int (Int32.ofNat n2)), .val (.ref x), .val (.ref o), .val (.int (Int32.ofNat ((k + 1) + 1))), .unset, .unset] [(.int p2), (.int (own_bit p1 (4 : Int32))), (.int (Int32.ofNat ((k + 1) + 1))), (.ref x), (.ref o)])) _
        refine XS.iconst X2093.here hx rfl (own_hb hby at_172) ?_
        exact kt
      obtain ⟨_, _, ⟨T2094, L2094, k2094, n2094⟩, -, X2094, ⟨Lc2094, hQ2094, l2094, y2094, z2094⟩, st2094⟩ := Jvm.LawKit.callS X2093 hx (y := (⟨"com/example/quayside/quayside/RowIsNullPinLaw", "put", "(Lcom/example/quayside/quayside/Row;[ZIZII)I"⟩ : MethodName)) hown (mvT hZ (hw _ (List.mem_of_getElem? (i := 22) rfl))) (mvT hZ (hw _ (List.mem_of_getElem? (i := 23) rfl))) (mvT hZ (hw _ (List.mem_of_getElem? (i := 20) rfl))) (mvT hZ (hw _ (List.mem_of_getElem? (i := 24) rfl))) (by decide) (backOf (W := 0) (rm4g l Z a0 hw [] o x ((k + 1) + 1) (own_bit p1 (4 : Int32)) p2 (4 : Int32) cap'2090 (own_set (own_set f k (own_bit p1 (2 : Int32))) (k + 1) (own_bit p1 (3 : Int32))) T2090.heap n0 z2091 p2090_0 p2090_1 pr2 (own_bit01 p1 (4 : Int32)) (by omega) (by omega)) hZ (hw _ (List.mem_of_getElem? (i := 24) rfl)) (hw _ (List.mem_of_getElem? (i := 20) rfl)) (by decide) (by decide)) (g := (mkF m 173 #[.val (.int p0), .val (.int p1), .val (.int p2), .val (.int p3), .val (.int i4), .val (.int i5), .val (.int (Int32.ofNat n2)), .val (.ref x), .val (.ref o), .val (.int (Int32.ofNat ((k + 1) + 1))), .unset, .unset] [(.int (4 : Int32)), (.int p2), (.int (own_bit p1 (4 : Int32))), (.int (Int32.ofNat ((k + 1) + 1))), (.ref x), (.ref o)])) rfl (by rw [hml]; rfl) (argsL := [(.ref o), (.ref x), (.int (Int32.ofNat ((k + 1) + 1))), (.int (own_bit p1 (4 : Int32))), (.int p2), (.int (4 : Int32))]) (rest := []) (lenOf pd_9 rfl) rfl (by show 2 * 0 + _ ≤ _; exact Nat.le_of_eq rfl) (own_hb hby at_173) (fun _ _ => ⟨rfl, hh2093, (by decide : 17 + 4 ≤ _), (by decide : 87 + 24 ≤ _)⟩)
      dsimp only [Pt.U, Pt.locs, Pt.cells, Pt.slots] at X2094 l2094 y2094 z2094 st2094 hQ2094
      subst l2094 y2094 z2094
      obtain ⟨cap'2094, rfl, N2094q, K2094, p2094_0, p2094_1⟩ := hQ2094
      have N2094 := Fr.app N2093 N2094q
      refine own_Go.of (S' := (T2094.setTop (mkF m 176 #[.val (.int p0), .val (.int p1), .val (.int p2), .val (.int p3), .val (.int i4), .val (.int i5), .val (.int (Int32.ofNat n2)), .val (.ref x), .val (.ref o), .val (.int (Int32.ofNat ((k + 1) + 1))), .unset, .unset] [(.int (Int32.ofNat (((k + 1) + 1) + 1)))]))) (fun t kt => st2094 t kt) ?_
      have z2095 : n0 ≤ T2094.heap.size := Nat.le_trans z2091 K2094
      refine own_Go.of (S' := (T2094.setTop (mkF m 181 #[.val (.int p0), .val (.int p1), .val (.int p2), .val (.int p3), .val (.int i4), .val (.int i5), .val (.int (Int32.ofNat n2)), .val (.ref x), .val (.ref o), .val (.int (Int32.ofNat (((k + 1) + 1) + 1))), .unset, .unset] [(.int (3 : Int32)), (.int (Int32.ofNat n2))]))) (fun t kt => ?_) ?_
      · show Steps p.tables e below (T2094.setTop (mkF m 176 #[.val (.int p0), .val (.int p1), .val (.int p2), .val (.int p3), .val (.int i4), .val (.int i5), .val (.int (Int32.ofNat n2)), .val (.ref x), .val (.ref o), .val (.int (Int32.ofNat ((k + 1) + 1))), .unset, .unset] [(.int (Int32.ofNat (((k + 1) + 1) + 1)))])) _
        refine XS.istore X2094.here hx rfl (own_hb hby at_176) rfl (l' := #[.val (.int p0), .val (.int p1), .val (.int p2), .val (.int p3), .val (.int i4), .val (.int i5), .val (.int (Int32.ofNat n2)), .val (.ref x), .val (.ref o), .val (.int (Int32.ofNat (((k + 1) + 1) + 1))), .unset, .unset]) rfl ?_
        show Steps p.tables e below (T2094.setTop (mkF m 178 #[.val (.int p0), .val (.int p1), .val (.int p2), .val (.int p3), .val (.int i4), .val (.int i5), .val (.int (Int32.ofNat n2)), .val (.ref x), .val (.ref o), .val (.int (Int32.ofNat (((k + 1) + 1) + 1))), .unset, .unset] [])) _
        refine XS.iload X2094.here hx rfl (own_hb hby at_178) rfl ?_
        show Steps p.tables e below (T2094.setTop (mkF m 180 #[.val (.int p0), .val (.int p1), .val (.int p2), .val (.int p3), .val (.int i4), .val (.int i5), .val (.int (Int32.ofNat n2)), .val (.ref x), .val (.ref o), .val (.int (Int32.ofNat (((k + 1) + 1) + 1))), .unset, .unset] [(.int (Int32.ofNat n2))])) _
        refine XS.iconst X2094.here hx rfl (own_hb hby at_180) ?_
        exact kt
      by_cases hc181_2096 : 3 < n2
      · skip
        refine own_Go.of (S' := (T2094.setTop (mkF m 192 #[.val (.int p0), .val (.int p1), .val (.int p2), .val (.int p3), .val (.int i4), .val (.int i5), .val (.int (Int32.ofNat n2)), .val (.ref x), .val (.ref o), .val (.int (Int32.ofNat (((k + 1) + 1) + 1))), .unset, .unset] [(.int (5 : Int32)), (.int p1), (.int (Int32.ofNat (((k + 1) + 1) + 1))), (.ref x), (.ref o)]))) (fun t kt => ?_) ?_
        · show Steps p.tables e below (T2094.setTop (mkF m 181 #[.val (.int p0), .val (.int p1), .val (.int p2), .val (.int p3), .val (.int i4), .val (.int i5), .val (.int (Int32.ofNat n2)), .val (.ref x), .val (.ref o), .val (.int (Int32.ofNat (((k + 1) + 1) + 1))), .unset, .unset] [(.int (3 : Int32)), (.int (Int32.ofNat n2))])) _
          refine XS.icmpNo X2094.here hx rfl (own_hb hby at_181) rfl (tlt ((own_ltN (by omega) (by omega)).mpr hc181_2096)).2.2.2 ?_
          show Steps p.tables e below (T2094.setTop (mkF m 184 #[.val (.int p0), .val (.int p1), .val (.int p2), .val (.int p3), .val (.int i4), .val (.int i5), .val (.int (Int32.ofNat n2)), .val (.ref x), .val (.ref o), .val (.int (Int32.ofNat (((k + 1) + 1) + 1))), .unset, .unset] [])) _
          refine XS.aload X2094.here hx rfl (own_hb hby at_184) rfl rfl ?_
          show Steps p.tables e below (T2094.setTop (mkF m 186 #[.val (.int p0), .val (.int p1), .val (.int p2), .val (.int p3), .val (.int i4), .val (.int i5), .val (.int (Int32.ofNat n2)), .val (.ref x), .val (.ref o), .val (.int (Int32.ofNat (((k + 1) + 1) + 1))), .unset, .unset] [(.ref o)])) _
          refine XS.aload X2094.here hx rfl (own_hb hby at_186) rfl rfl ?_
          show Steps p.tables e below (T2094.setTop (mkF m 188 #[.val (.int p0), .val (.int p1), .val (.int p2), .val (.int p3), .val (.int i4), .val (.int i5), .val (.int (Int32.ofNat n2)), .val (.ref x), .val (.ref o), .val (.int (Int32.ofNat (((k + 1) + 1) + 1))), .unset, .unset] [(.ref x), (.ref o)])) _
          refine XS.iload X2094.here hx rfl (own_hb hby at_188) rfl ?_
          show Steps p.tables e below (T2094.setTop (mkF m 190 #[.val (.int p0), .val (.int p1), .val (.int p2), .val (.int p3), .val (.int i4), .val (.int i5), .val (.int (Int32.ofNat n2)), .val (.ref x), .val (.ref o), .val (.int (Int32.ofNat (((k + 1) + 1) + 1))), .unset, .unset] [(.int (Int32.ofNat (((k + 1) + 1) + 1))), (.ref x), (.ref o)])) _
          refine XS.iloadN X2094.here hx rfl (own_hb hby at_190) rfl ?_
          show Steps p.tables e below (T2094.setTop (mkF m 191 #[.val (.int p0), .val (.int p1), .val (.int p2), .val (.int p3), .val (.int i4), .val (.int i5), .val (.int (Int32.ofNat n2)), .val (.ref x), .val (.ref o), .val (.int (Int32.ofNat (((k + 1) + 1) + 1))), .unset, .unset] [(.int p1), (.int (Int32.ofNat (((k + 1) + 1) + 1))), (.ref x), (.ref o)])) _
          refine XS.iconst X2094.here hx rfl (own_hb hby at_191) ?_
          exact kt
        obtain ⟨_, _, ⟨T2097, L2097, k2097, n2097⟩, -, X2097, ⟨Lc2097, hQ2097, l2097, y2097, z2097⟩, st2097⟩ := Jvm.LawKit.callS X2094 hx (y := (⟨"com/example/quayside/quayside/RowIsNullPinLaw", "bit", "(II)Z"⟩ : MethodName)) hown (mvT hZ (hw _ (List.mem_of_getElem? (i := 18) rfl))) (mvT hZ (hw _ (List.mem_of_getElem? (i := 19) rfl))) (mvT hZ (hw _ (List.mem_of_getElem? (i := 20) rfl))) (mvT hZ (hw _ (List.mem_of_getElem? (i := 21) rfl))) (by decide) (backOf (W := 3) (rm3 l Z a0 hw [] p1 (5 : Int32) T2094.heap n0 z2095 ) hZ (hw _ (List.mem_of_getElem? (i := 21) rfl)) (hw _ (List.mem_of_getElem? (i := 20) rfl)) (by decide) (by decide)) (g := (mkF m 192 #[.val (.int p0), .val (.int p1), .val (.int p2), .val (.int p3), .val (.int i4), .val (.int i5), .val (.int (Int32.ofNat n2)), .val (.ref x), .val (.ref o), .val (.int (Int32.ofNat (((k + 1) + 1) + 1))), .unset, .unset] [(.int (5 : Int32)), (.int p1), (.int (Int32.ofNat (((k + 1) + 1) + 1))), (.ref x), (.ref o)])) rfl (by rw [hml]; rfl) (argsL := [(.int p1), (.int (5 : Int32))]) (rest := [(.int (Int32.ofNat (((k + 1) + 1) + 1))), (.ref x), (.ref o)]) (lenOf pd_8 rfl) rfl (by show 2 * 0 + _ ≤ _; exact Nat.le_of_eq rfl) (own_hb hby at_192) (fun _ _ => ⟨rfl, rfl, (by decide : 21 + 0 ≤ _), (by decide : 111 + 0 ≤ _)⟩)
        dsimp only [Pt.U, Pt.locs, Pt.cells, Pt.slots] at X2097 l2097 y2097 z2097 st2097 hQ2097
        subst l2097 y2097 z2097
        obtain ⟨rfl, N2097q, hh2097⟩ := hQ2097
        have N2097 := Fr.app N2094 N2097q
        refine own_Go.of (S' := (T2097.setTop (mkF m 195 #[.val (.int p0), .val (.int p1), .val (.int p2), .val (.int p3), .val (.int i4), .val (.int i5), .val (.int (Int32.ofNat n2)), .val (.ref x), .val (.ref o), .val (.int (Int32.ofNat (((k + 1) + 1) + 1))), .unset, .unset] [(.int (own_bit p1 (5 : Int32))), (.int (Int32.ofNat (((k + 1) + 1) + 1))), (.ref x), (.ref o)]))) (fun t kt => st2097 t kt) ?_
        refine own_Go.of (S' := (T2097.setTop (mkF m 197 #[.val (.int p0), .val (.int p1), .val (.int p2), .val (.int p3), .val (.int i4), .val (.int i5), .val (.int (Int32.ofNat n2)), .val (.ref x), .val (.ref o), .val (.int (Int32.ofNat (((k + 1) + 1) + 1))), .unset, .unset] [(.int (5 : Int32)), (.int p2), (.int (own_bit p1 (5 : Int32))), (.int (Int32.ofNat (((k + 1) + 1) + 1))), (.ref x), (.ref o)]))) (fun t kt => ?_) ?_
        · show Steps p.tables e below (T2097.setTop (mkF m 195 #[.val (.int p0), .val (.int p1), .val (.int p2), .val (.int p3), .val (.int i4), .val (.int i5), .val (.int (Int32.ofNat n2)), .val (.ref x), .val (.ref o), .val (.int (Int32.ofNat (((k + 1) + 1) + 1))), .unset, .unset] [(.int (own_bit p1 (5 : Int32))), (.int (Int32.ofNat (((k + 1) + 1) + 1))), (.ref x), (.ref o)])) _
          refine XS.iloadN X2097.here hx rfl (own_hb hby at_195) rfl ?_
          show Steps p.tables e below (T2097.setTop (mkF m 196 #[.val (.int p0), .val (.int p1), .val (.int p2), .val (.int p3), .val (.int i4), .val (.int i5), .val (.int (Int32.ofNat n2)), .val (.ref x), .val (.ref o), .val (.int (Int32.ofNat (((k + 1) + 1) + 1))), .unset, .unset] [(.int p2), (.int (own_bit p1 (5 : Int32))), (.int (Int32.ofNat (((k + 1) + 1) + 1))), (.ref x), (.ref o)])) _
          refine XS.iconst X2097.here hx rfl (own_hb hby at_196) ?_
          exact kt
        obtain ⟨_, _, ⟨T2098, L2098, k2098, n2098⟩, -, X2098, ⟨Lc2098, hQ2098, l2098, y2098, z2098⟩, st2098⟩ := Jvm.LawKit.callS X2097 hx (y := (⟨"com/example/quayside/quayside/RowIsNullPinLaw", "put", "(Lcom/example/quayside/quayside/Row;[ZIZII)I"⟩ : MethodName)) hown (mvT hZ (hw _ (List.mem_of_getElem? (i := 22) rfl))) (mvT hZ (hw _ (List.mem_of_getElem? (i := 23) rfl))) (mvT hZ (hw _ (List.mem_of_getElem? (i := 20) rfl))) (mvT hZ (hw _ (List.mem_of_getElem? (i := 24) rfl))) (by decide) (backOf (W := 0) (rm4g l Z a0 hw [] o x (((k + 1) + 1) + 1) (own_bit p1 (5 : Int32)) p2 (5 : Int32) cap'2094 (own_set (own_set (own_set f k (own_bit p1 (2 : Int32))) (k + 1) (own_bit p1 (3 : Int32))) ((k + 1) + 1) (own_bit p1 (4 : Int32))) T2094.heap n0 z2095 p2094_0 p2094_1 pr2 (own_bit01 p1 (5 : Int32)) (by omega) (by omega)) hZ (hw _ (List.mem_of_getElem? (i := 24) rfl)) (hw _ (List.mem_of_getElem? (i := 20) rfl)) (by decide) (by decide)) (g := (mkF m 197 #[.val (.int p0), .val (.int p1), .val (.int p2), .val (.int p3), .val (.int i4), .val (.int i5), .val (.int (Int32.ofNat n2)), .val (.ref x), .val (.ref o), .val (.int (Int32.ofNat (((k + 1) + 1) + 1))), .unset, .unset] [(.int (5 : Int32)), (.int p2), (.int (own_bit p1 (5 : Int32))), (.int (Int32.ofNat (((k + 1) + 1) + 1))), (.ref x), (.ref o)])) rfl (by rw [hml]; rfl) (argsL := [(.ref o), (.ref x), (.int (Int32.ofNat (((k + 1) + 1) + 1))), (.int (own_bit p1 (5 : Int32))), (.int p2), (.int (5 : Int32))]) (rest := []) (lenOf pd_9 rfl) rfl (by show 2 * 0 + _ ≤ _; exact Nat.le_of_eq rfl) (own_hb hby at_197) (fun _ _ => ⟨rfl, hh2097, (by decide : 21 + 4 ≤ _), (by decide : 111 + 24 ≤ _)⟩)
        dsimp only [Pt.U, Pt.locs, Pt.cells, Pt.slots] at X2098 l2098 y2098 z2098 st2098 hQ2098
        subst l2098 y2098 z2098
        obtain ⟨cap'2098, rfl, N2098q, K2098, p2098_0, p2098_1⟩ := hQ2098
        have N2098 := Fr.app N2097 N2098q
        refine own_Go.of (S' := (T2098.setTop (mkF m 200 #[.val (.int p0), .val (.int p1), .val (.int p2), .val (.int p3), .val (.int i4), .val (.int i5), .val (.int (Int32.ofNat n2)), .val (.ref x), .val (.ref o), .val (.int (Int32.ofNat (((k + 1) + 1) + 1))), .unset, .unset] [(.int (Int32.ofNat ((((k + 1) + 1) + 1) + 1)))]))) (fun t kt => st2098 t kt) ?_
        have z2099 : n0 ≤ T2098.heap.size := Nat.le_trans z2095 K2098
        refine own_Go.of (S' := (T2098.setTop (mkF m 205 #[.val (.int p0), .val (.int p1), .val (.int p2), .val (.int p3), .val (.int i4), .val (.int i5), .val (.int (Int32.ofNat n2)), .val (.ref x), .val (.ref o), .val (.int (Int32.ofNat ((((k + 1) + 1) + 1) + 1))), .unset, .unset] [(.int (4 : Int32)), (.int (Int32.ofNat n2))]))) (fun t kt => ?_) ?_
        · show Steps p.tables e below (T2098.setTop (mkF m 200 #[.val (.int p0), .val (.int p1), .val (.int p2), .val (.int p3), .val (.int i4), .val (.int i5), .val (.int (Int32.ofNat n2)), .val (.ref x), .val (.ref o), .val (.int (Int32.ofNat (((k + 1) + 1) + 1))), .unset, .unset] [(.int (Int32.ofNat ((((k + 1) + 1) + 1) + 1)))])) _
          refine XS.istore X2098.here hx rfl (own_hb hby at_200) rfl (l' := #[.val (.int p0), .val (.int p1), .val (.int p2), .val (.int p3), .val (.int i4), .val (.int i5), .val (.int (Int32.ofNat n2)), .val (.ref x), .val (.ref o), .val (.int (Int32.ofNat ((((k + 1) + 1) + 1) + 1))), .unset, .unset]) rfl ?_
          show Steps p.tables e below (T2098.setTop (mkF m 202 #[.val (.int p0), .val (.int p1), .val (.int p2), .val (.int p3), .val (.int i4), .val (.int i5), .val (.int (Int32.ofNat n2)), .val (.ref x), .val (.ref o), .val (.int (Int32.ofNat ((((k + 1) + 1) + 1) + 1))), .unset, .unset] [])) _
          refine XS.iload X2098.here hx rfl (own_hb hby at_202) rfl ?_
          show Steps p.tables e below (T2098.setTop (mkF m 204 #[.val (.int p0), .val (.int p1), .val (.int p2), .val (.int p3), .val (.int i4), .val (.int i5), .val (.int (Int32.ofNat n2)), .val (.ref x), .val (.ref o), .val (.int (Int32.ofNat ((((k + 1) + 1) + 1) + 1))), .unset, .unset] [(.int (Int32.ofNat n2))])) _
          refine XS.iconst X2098.here hx rfl (own_hb hby at_204) ?_
          exact kt
        by_cases hc205_2100 : 4 < n2
        · skip
          refine own_Go.of (S' := (T2098.setTop (mkF m 217 #[.val (.int p0), .val (.int p1), .val (.int p2), .val (.int p3), .val (.int i4), .val (.int i5), .val (.int (Int32.ofNat n2)), .val (.ref x), .val (.ref o), .val (.int (Int32.ofNat ((((k + 1) + 1) + 1) + 1))), .unset, .unset] [(.int (6 : Int32)), (.int p1), (.int (Int32.ofNat ((((k + 1) + 1) + 1) + 1))), (.ref x), (.ref o)]))) (fun t kt => ?_) ?_
          · show Steps p.tables e below (T2098.setTop (mkF m 205 #[.val (.int p0), .val (.int p1), .val (.int p2), .val (.int p3), .val (.int i4), .val (.int i5), .val (.int (Int32.ofNat n2)), .val (.ref x), .val (.ref o), .val (.int (Int32.ofNat ((((k + 1) + 1) + 1) + 1))), .unset, .unset] [(.int (4 : Int32)), (.int (Int32.ofNat n2))])) _
            refine XS.icmpNo X2098.here hx rfl (own_hb hby at_205) rfl (tlt ((own_ltN (by omega) (by omega)).mpr hc205_2100)).2.2.2 ?_
            show Steps p.tables e below (T2098.setTop (mkF m 208 #[.val (.int p0), .val (.int p1), .val (.int p2), .val (.int p3), .val (.int i4), .val (.int i5), .val (.int (Int32.ofNat n2)), .val (.ref x), .val (.ref o), .val (.int (Int32.ofNat ((((k + 1) + 1) + 1) + 1))), .unset, .unset] [])) _
            refine XS.aload X2098.here hx rfl (own_hb hby at_208) rfl rfl ?_
            show Steps p.tables e below (T2098.setTop (mkF m 210 #[.val (.int p0), .val (.int p1), .val (.int p2), .val (.int p3), .val (.int i4), .val (.int i5), .val (.int (Int32.ofNat n2)), .val (.ref x), .val (.ref o), .val (.int (Int32.ofNat ((((k + 1) + 1) + 1) + 1))), .unset, .unset] [(.ref o)])) _
            refine XS.aload X2098.here hx rfl (own_hb hby at_210) rfl rfl ?_
            show Steps p.tables e below (T2098.setTop (mkF m 212 #[.val (.int p0), .val (.int p1), .val (.int p2), .val (.int p3), .val (.int i4), .val (.int i5), .val (.int (Int32.ofNat n2)), .val (.ref x), .val (.ref o), .val (.int (Int32.ofNat ((((k + 1) + 1) + 1) + 1))), .unset, .unset] [(.ref x), (.ref o)])) _
            refine XS.iload X2098.here hx rfl (own_hb hby at_212) rfl ?_
            show Steps p.tables e below (T2098.setTop (mkF m 214 #[.val (.int p0), .val (.int p1), .val (.int p2), .val (.int p3), .val (.int i4), .val (.int i5), .val (.int (Int32.ofNat n2)), .val (.ref x), .val (.ref o), .val (.int (Int32.ofNat ((((k + 1) + 1) + 1) + 1))), .unset, .unset] [(.int (Int32.ofNat ((((k + 1) + 1) + 1) + 1))), (.ref x), (.ref o)])) _
            refine XS.iloadN X2098.here hx rfl (own_hb hby at_214) rfl ?_
            show Steps p.tables e below (T2098.setTop (mkF m 215 #[.val (.int p0), .val (.int p1), .val (.int p2), .val (.int p3), .val (.int i4), .val (.int i5), .val (.int (Int32.ofNat n2)), .val (.ref x), .val (.ref o), .val (.int (Int32.ofNat ((((k + 1) + 1) + 1) + 1))), .unset, .unset] [(.int p1), (.int (Int32.ofNat ((((k + 1) + 1) + 1) + 1))), (.ref x), (.ref o)])) _
            refine XS.bipush X2098.here hx rfl (own_hb hby at_215) ?_
            exact kt
          obtain ⟨_, _, ⟨T2101, L2101, k2101, n2101⟩, -, X2101, ⟨Lc2101, hQ2101, l2101, y2101, z2101⟩, st2101⟩ := Jvm.LawKit.callS X2098 hx (y := (⟨"com/example/quayside/quayside/RowIsNullPinLaw", "bit", "(II)Z"⟩ : MethodName)) hown (mvT hZ (hw _ (List.mem_of_getElem? (i := 18) rfl))) (mvT hZ (hw _ (List.mem_of_getElem? (i := 19) rfl))) (mvT hZ (hw _ (List.mem_of_getElem? (i := 20) rfl))) (mvT hZ (hw _ (List.mem_of_getElem? (i := 21) rfl))) (by decide) (backOf (W := 3) (rm3 l Z a0 hw [] p1 (6 : Int32) T2098.heap n0 z2099 ) hZ (hw _ (List.mem_of_getElem? (i := 21) rfl)) (hw _ (List.mem_of_getElem? (i := 20) rfl)) (by decide) (by decide)) (g := (mkF m 217 #[.val (.int p0), .val (.int p1), .val (.int p2), .val (.int p3), .val (.int i4), .val (.int i5), .val (.int (Int32.ofNat n2)), .val (.ref x), .val (.ref o), .val (.int (Int32.ofNat ((((k + 1) + 1) + 1) + 1))), .unset, .unset] [(.int (6 : Int32)), (.int p1), (.int (Int32.ofNat ((((k + 1) + 1) + 1) + 1))), (.ref x), (.ref o)])) rfl (by rw [hml]; rfl) (argsL := [(.int p1), (.int (6 : Int32))]) (rest := [(.int (Int32.ofNat ((((k + 1) + 1) + 1) + 1))), (.ref x), (.ref o)]) (lenOf pd_8 rfl) rfl (by show 2 * 0 + _ ≤ _; exact Nat.le_of_eq rfl) (own_hb hby at_217) (fun _ _ => ⟨rfl, rfl, (by decide : 25 + 0 ≤ _), (by decide : 135 + 0 ≤ _)⟩)
          dsimp only [Pt.U, Pt.locs, Pt.cells, Pt.slots] at X2101 l2101 y2101 z2101 st2101 hQ2101
          subst l2101 y2101 z2101
          obtain ⟨rfl, N2101q, hh2101⟩ := hQ2101
          have N2101 := Fr.app N2098 N2101q
          refine own_Go.of (S' := (T2101.setTop (mkF m 220 #[.val (.int p0), .val (.int p1), .val (.int p2), .val (.int p3), .val (.int i4), .val (.int i5), .val (.int (Int32.ofNat n2)), .val (.ref x), .val (.ref o), .val (.int (Int32.ofNat ((((k + 1) + 1) + 1) + 1))), .unset, .unset] [(.int (own_bit p1 (6 : Int32))), (.int (Int32.ofNat ((((k + 1) + 1) + 1) + 1))), (.ref x), (.ref o)]))) (fun t kt => st2101 t kt) ?_
          refine own_Go.of (S' := (T2101.setTop (mkF m 223 #[.val (.int p0), .val (.int p1), .val (.int p2), .val (.int p3), .val (.int i4), .val (.int i5), .val (.int (Int32.ofNat n2)), .val (.ref x), .val (.ref o), .val (.int (Int32.ofNat ((((k + 1) + 1) + 1) + 1))), .unset, .unset] [(.int (6 : Int32)), (.int p2), (.int (own_bit p1 (6 : Int32))), (.int (Int32.ofNat ((((k + 1) + 1) + 1) + 1))), (.ref x), (.ref o)]))) (fun t kt => ?_) ?_
          · show Steps p.tables e below (T2101.setTop (mkF m 220 #[.val (.int p0), .val (.int p1), .val (.int p2), .val (.int p3), .val (.int i4), .val (.int i5), .val (.int (Int32.ofNat n2)), .val (.ref x), .val (.ref o), .val (.int (Int32.ofNat ((((k + 1) + 1) + 1) + 1))), .unset, .unset] [(.int (own_bit p1 (6 : Int32))), (.int (Int32.ofNat ((((k + 1) + 1) + 1) + 1))), (.ref x), (.ref o)])) _
            refine XS.iloadN X2101.here hx rfl (own_hb hby at_220) rfl ?_
            show Steps p.tables e below (T2101.setTop (mkF m 221 #[.val (.int p0), .val (.int p1), .val (.int p2), .val (.int p3), .val (.int i4), .val (.int i5), .val (.int (Int32.ofNat n2)), .val (.ref x), .val (.ref o), .val (.int (Int32.ofNat ((((k + 1) + 1) + 1) + 1))), .unset, .unset] [(.int p2), (.int (own_bit p1 (6 : Int32))), (.int (Int32.ofNat ((((k + 1) + 1) + 1) + 1))), (.ref x), (.ref o)])) _
            refine XS.bipush X2101.here hx rfl (own_hb hby at_221) ?_
            exact kt
          obtain ⟨_, _, ⟨T2102, L2102, k2102, n2102⟩, -, X2102, ⟨Lc2102, hQ2102, l2102, y2102, z2102⟩, st2102⟩ := Jvm.LawKit.callS X2101 hx (y := (⟨"com/example/quayside/quayside/RowIsNullPinLaw", "put", "(Lcom/example/quayside/quayside/Row;[ZIZII)I"⟩ : MethodName)) hown (mvT hZ (hw _ (List.mem_of_getElem? (i := 22) rfl))) (mvT hZ (hw _ (List.mem_of_getElem? (i := 23) rfl))) (mvT hZ (hw _ (List.mem_of_getElem? (i := 20) rfl))) (mvT hZ (hw _ (List.mem_of_getElem? (i := 24) rfl))) (by decide) (backOf (W := 0) (rm4g l Z a0 hw [] o x ((((k + 1) + 1) + 1) + 1) (own_bit p1 (6 : Int32)) p2 (6 : Int32) cap'2098 (own_set (own_set (own_set (own_set f k (own_bit p1 (2 : Int32))) (k + 1) (own_bit p1 (3 : Int32))) ((k + 1) + 1) (own_bit p1 (4 : Int32))) (((k + 1) + 1) + 1) (own_bit p1 (5 : Int32))) T2098.heap n0 z2099 p2098_0 p2098_1 pr2 (own_bit01 p1 (6 : Int32)) (by omega) (by omega)) hZ (hw _ (List.mem_of_getElem? (i := 24) rfl)) (hw _ (List.mem_of_getElem? (i := 20) rfl)) (by decide) (by decide)) (g := (mkF m 223 #[.val (.int p0), .val (.int p1), .val (.int p2), .val (.int p3), .val (.int i4), .val (.int i5), .val (.int (Int32.ofNat n2)), .val (.ref x), .val (.ref o), .val (.int (Int32.ofNat ((((k + 1) + 1) + 1) + 1))), .unset, .unset] [(.int (6 : Int32)), (.int p2), (.int (own_bit p1 (6 : Int32))), (.int (Int32.ofNat ((((k + 1) + 1) + 1) + 1))), (.ref x), (.ref o)])) rfl (by rw [hml]; rfl) (argsL := [(.ref o), (.ref x), (.int (Int32.ofNat ((((k + 1) + 1) + 1) + 1))), (.int (own_bit p1 (6 : Int32))), (.int p2), (.int (6 : Int32))]) (rest := []) (lenOf pd_9 rfl) rfl (by show 2 * 0 + _ ≤ _; exact Nat.le_of_eq rfl) (own_hb hby at_223) (fun _ _ => ⟨rfl, hh2101, (by decide : 25 + 4 ≤ _), (by decide : 135 + 24 ≤ _)⟩)
          dsimp only [Pt.U, Pt.locs, Pt.cells, Pt.slots] at X2102 l2102 y2102 z2102 st2102 hQ2102
          subst l2102 y2102 z2102
          obtain ⟨cap'2102, rfl, N2102q, K2102, p2102_0, p2102_1⟩ := hQ2102
          have N2102 := Fr.app N2101 N2102q
          refine own_Go.of (S' := (T2102.setTop (mkF m 226 #[.val (.int p0), .val (.int p1), .val (.int p2), .val (.int p3), .val (.int i4), .val (.int i5), .val (.int (Int32.ofNat n2)), .val (.ref x), .val (.ref o), .val (.int (Int32.ofNat ((((k + 1) + 1) + 1) + 1))), .unset, .unset] [(.int (Int32.ofNat (((((k + 1) + 1) + 1) + 1) + 1)))]))) (fun t kt => st2102 t kt) ?_
          have z2103 : n0 ≤ T2102.heap.size := Nat.le_trans z2099 K2102
          refine own_Go.of (S' := (T2102.setTop (mkF m 228 #[.val (.int p0), .val (.int p1), .val (.int p2), .val (.int p3), .val (.int i4), .val (.int i5), .val (.int (Int32.ofNat n2)), .val (.ref x), .val (.ref o), .val (.int (Int32.ofNat (((((k + 1) + 1) + 1) + 1) + 1))), .unset, .unset] []))) (fun t kt => ?_) ?_
          · show Steps p.tables e below (T2102.setTop (mkF m 226 #[.val (.int p0), .val (.int p1), .val (.int p2), .val (.int p3), .val (.int i4), .val (.int i5), .val (.int (Int32.ofNat n2)), .val (.ref x), .val (.ref o), .val (.int (Int32.ofNat ((((k + 1) + 1) + 1) + 1))), .unset, .unset] [(.int (Int32.ofNat (((((k + 1) + 1) + 1) + 1) + 1)))])) _
            refine XS.istore X2102.here hx rfl (own_hb hby at_226) rfl (l' := #[.val (.int p0), .val (.int p1), .val (.int p2), .val (.int p3), .val (.int i4), .val (.int i5), .val (.int (Int32.ofNat n2)), .val (.ref x), .val (.ref o), .val (.int (Int32.ofNat (((((k + 1) + 1) + 1) + 1) + 1))), .unset, .unset]) rfl ?_
            exact kt
          exact seg228 hw hx hZ hby hml hret hlk hown hnm p0 p1 p2 p3 h0 n0 x o (((((k + 1) + 1) + 1) + 1) + 1) cap'2102 (own_set (own_set (own_set (own_set (own_set f k (own_bit p1 (2 : Int32))) (k + 1) (own_bit p1 (3 : Int32))) ((k + 1) + 1) (own_bit p1 (4 : Int32))) (((k + 1) + 1) + 1) (own_bit p1 (5 : Int32))) ((((k + 1) + 1) + 1) + 1) (own_bit p1 (6 : Int32))) i4 i5 n2 (own_mono X2102 (by decide) (by decide)) rfl N2102 z2103 p2102_0 p2102_1 (by omega) (by omega)
        · skip
          refine own_Go.of (S' := (T2098.setTop (mkF m 228 #[.val (.int p0), .val (.int p1), .val (.int p2), .val (.int p3), .val (.int i4), .val (.int i5), .val (.int (Int32.ofNat n2)), .val (.ref x), .val (.ref o), .val (.int (Int32.ofNat ((((k + 1) + 1) + 1) + 1))), .unset, .unset] []))) (fun t kt => ?_) ?_
          · show Steps p.tables e below (T2098.setTop (mkF m 205 #[.val (.int p0), .val (.int p1), .val (.int p2), .val (.int p3), .val (.int i4), .val (.int i5), .val (.int (Int32.ofNat n2)), .val (.ref x), .val (.ref o), .val (.int (Int32.ofNat ((((k + 1) + 1) + 1) + 1))), .unset, .unset] [(.int (4 : Int32)), (.int (Int32.ofNat n2))])) _
            refine XS.icmpYes X2098.here hx rfl (pc0 := 205) (pc' := 228) rfl (own_hb hby at_205) rfl (flt (fun q => hc205_2100 ((own_ltN (by omega) (by omega)).mp q))).2.2.2 (by decide) (by decide) ?_
            exact kt
          exact seg228 hw hx hZ hby hml hret hlk hown hnm p0 p1 p2 p3 h0 n0 x o ((((k + 1) + 1) + 1) + 1) cap'2098 (own_set (own_set (own_set (own_set f k (own_bit p1 (2 : Int32))) (k + 1) (own_bit p1 (3 : Int32))) ((k + 1) + 1) (own_bit p1 (4 : Int32))) (((k + 1) + 1) + 1) (own_bit p1 (5 : Int32))) i4 i5 n2 (own_mono X2098 (by decide) (by decide)) rfl N2098 z2099 p2098_0 p2098_1 (by omega) (by omega)
      · skip
        refine own_Go.of (S' := (T2094.setTop (mkF m 228 #[.val (.int p0), .val (.int p1), .val (.int p2), .val (.int p3), .val (.int i4), .val (.int i5), .val (.int (Int32.ofNat n2)), .val (.ref x), .val (.ref o), .val (.int (Int32.ofNat (((k + 1) + 1) + 1))), .unset, .unset] []))) (fun t kt => ?_) ?_
        · show Steps p.tables e below (T2094.setTop (mkF m 181 #[.val (.int p0), .val (.int p1), .val (.int p2), .val (.int p3), .val (.int i4), .val (.int i5), .val (.int (Int32.ofNat n2)), .val (.ref x), .val (.ref o), .val (.int (Int32.ofNat (((k + 1) + 1) + 1))), .unset, .unset] [(.int (3 : Int32)), (.int (Int32.ofNat n2))])) _
          refine XS.icmpYes X2094.here hx rfl (pc0 := 181) (pc' := 202) rfl (own_hb hby at_181) rfl (flt (fun q => hc181_2096 ((own_ltN (by omega) (by omega)).mp q))).2.2.2 (by decide) (by decide) ?_
          show Steps p.tables e below (T2094.setTop (mkF m 202 #[.val (.int p0), .val (.int p1), .val (.int p2), .val (.int p3), .val (.int i4), .val (.int i5), .val (.int (Int32.ofNat n2)), .val (.ref x), .val (.ref o), .val (.int (Int32.ofNat (((k + 1) + 1) + 1))), .unset, .unset] [])) _
          refine XS.iload X2094.here hx rfl (own_hb hby at_202) rfl ?_
          show Steps p.tables e below (T2094.setTop (mkF m 204 #[.val (.int p0), .val (.int p1), .val (.int p2), .val (.int p3), .val (.int i4), .val (.int i5), .val (.int (Int32.ofNat n2)), .val (.ref x), .val (.ref o), .val (.int (Int32.ofNat (((k + 1) + 1) + 1))), .unset, .unset] [(.int (Int32.ofNat n2))])) _
          refine XS.iconst X2094.here hx rfl (own_hb hby at_204) ?_
          show Steps p.tables e below (T2094.setTop (mkF m 205 #[.val (.int p0), .val (.int p1), .val (.int p2), .val (.int p3), .val (.int i4), .val (.int i5), .val (.int (Int32.ofNat n2)), .val (.ref x), .val (.ref o), .val (.int (Int32.ofNat (((k + 1) + 1) + 1))), .unset, .unset] [(.int (4 : Int32)), (.int (Int32.ofNat n2))])) _
          refine XS.icmpYes X2094.here hx rfl (pc0 := 205) (pc' := 228) rfl (own_hb hby at_205) rfl (flt (fun q => by have h2 := (own_ltN (a := 4) (b := n2) (by omega) (by omega)).mp q; omega)).2.2.2 (by decide) (by decide) ?_
          exact kt
        exact seg228 hw hx hZ hby hml hret hlk hown hnm p0 p1 p2 p3 h0 n0 x o (((k + 1) + 1) + 1) cap'2094 (own_set (own_set (own_set f k (own_bit p1 (2 : Int32))) (k + 1) (own_bit p1 (3 : Int32))) ((k + 1) + 1) (own_bit p1 (4 : Int32))) i4 i5 n2 (own_mono X2094 (by decide) (by decide)) rfl N2094 z2095 p2094_0 p2094_1 (by omega) (by omega)
    · skip
      refine own_Go.of (S' := (T2090.setTop (mkF m 228 #[.val (.int p0), .val (.int p1), .val (.int p2), .val (.int p3), .val (.int i4), .val (.int i5), .val (.int (Int32.ofNat n2)), .val (.ref x), .val (.ref o), .val (.int (Int32.ofNat ((k + 1) + 1))), .unset, .unset] []))) (fun t kt => ?_) ?_
      · show Steps p.tables e below (T2090.setTop (mkF m 157 #[.val (.int p0), .val (.int p1), .val (.int p2), .val (.int p3), .val (.int i4), .val (.int i5), .val (.int (Int32.ofNat n2)), .val (.ref x), .val (.ref o), .val (.int (Int32.ofNat ((k + 1) + 1))), .unset, .unset] [(.int (2 : Int32)), (.int (Int32.ofNat n2))])) _
        refine XS.icmpYes X2090.here hx rfl (pc0 := 157) (pc' := 178) rfl (own_hb hby at_157) rfl (flt (fun q => hc157_2092 ((own_ltN (by omega) (by omega)).mp q))).2.2.2 (by decide) (by decide) ?_
        show Steps p.tables e below (T2090.setTop (mkF m 178 #[.val (.int p0), .val (.int p1), .val (.int p2), .val (.int p3), .val (.int i4), .val (.int i5), .val (.int (Int32.ofNat n2)), .val (.ref x), .val (.ref o), .val (.int (Int32.ofNat ((k + 1) + 1))), .unset, .unset] [])) _
        refine XS.iload X2090.here hx rfl (own_hb hby at_178) rfl ?_
        show Steps p.tables e below (T2090.setTop (mkF m 180 #[.val (.int p0), .val (.int p1), .val (.int p2), .val (.int p3), .val (.int i4), .val (.int i5), .val (.int (Int32.ofNat n2)), .val (.ref x), .val (.ref o), .val (.int (Int32.ofNat ((k + 1) + 1))), .unset, .unset] [(.int (Int32.ofNat n2))])) _
        refine XS.iconst X2090.here hx rfl (own_hb hby at_180) ?_
        show Steps p.tables e below (T2090.setTop (mkF m 181 #[.val (.int p0), .val (.int p1), .val (.int p2), .val (.int p3), .val (.int i4), .val (.int i5), .val (.int (Int32.ofNat n2)), .val (.ref x), .val (.ref o), .val (.int (Int32.ofNat ((k + 1) + 1))), .unset, .unset] [(.int (3 : Int32)), (.int (Int32.ofNat n2))])) _
        refine XS.icmpYes X2090.here hx rfl (pc0 := 181) (pc' := 202) rfl (own_hb hby at_181) rfl (flt (fun q => by have h2 := (own_ltN (a := 3) (b := n2) (by omega) (by omega)).mp q; omega)).2.2.2 (by decide) (by decide) ?_
        show Steps p.tables e below (T2090.setTop (mkF m 202 #[.val (.int p0), .val (.int p1), .val (.int p2), .val (.int p3), .val (.int i4), .val (.int i5), .val (.int (Int32.ofNat n2)), .val (.ref x), .val (.ref o), .val (.int (Int32.ofNat ((k + 1) + 1))), .unset, .unset] [])) _
        refine XS.iload X2090.here hx rfl (own_hb hby at_202) rfl ?_
        show Steps p.tables e below (T2090.setTop (mkF m 204 #[.val (.int p0), .val (.int p1), .val (.int p2), .val (.int p3), .val (.int i4), .val (.int i5), .val (.int (Int32.ofNat n2)), .val (.ref x), .val (.ref o), .val (.int (Int32.ofNat ((k + 1) + 1))), .unset, .unset] [(.int (Int32.ofNat n2))])) _
        refine XS.iconst X2090.here hx rfl (own_hb hby at_204) ?_
        show Steps p.tables e below (T2090.setTop (mkF m 205 #[.val (.int p0), .val (.int p1), .val (.int p2), .val (.int p3), .val (.int i4), .val (.int i5), .val (.int (Int32.ofNat n2)), .val (.ref x), .val (.ref o), .val (.int (Int32.ofNat ((k + 1) + 1))), .unset, .unset] [(.int (4 : Int32)), (.int (Int32.ofNat n2))])) _
        refine XS.icmpYes X2090.here hx rfl (pc0 := 205) (pc' := 228) rfl (own_hb hby at_205) rfl (flt (fun q => by have h2 := (own_ltN (a := 4) (b := n2) (by omega) (by omega)).mp q; omega)).2.2.2 (by decide) (by decide) ?_
        exact kt
      exact seg228 hw hx hZ hby hml hret hlk hown hnm p0 p1 p2 p3 h0 n0 x o ((k + 1) + 1) cap'2090 (own_set (own_set f k (own_bit p1 (2 : Int32))) (k + 1) (own_bit p1 (3 : Int32))) i4 i5 n2 (own_mono X2090 (by decide) (by decide)) rfl N2090 z2091 p2090_0 p2090_1 (by omega) (by omega)
  · skip
    refine own_Go.of (S' := (T2086.setTop (mkF m 228 #[.val (.int p0), .val (.int p1), .val (.int p2), .val (.int p3), .val (.int i4), .val (.int i5), .val (.int (Int32.ofNat n2)), .val (.ref x), .val (.ref o), .val (.int (Int32.ofNat (k + 1))), .unset, .unset] []))) (fun t kt => ?_) ?_
    · show Steps p.tables e below (T2086.setTop (mkF m 133 #[.val (.int p0), .val (.int p1), .val (.int p2), .val (.int p3), .val (.int i4), .val (.int i5), .val (.int (Int32.ofNat n2)), .val (.ref x), .val (.ref o), .val (.int (Int32.ofNat (k + 1))), .unset, .unset] [(.int (1 : Int32)), (.int (Int32.ofNat n2))])) _
      refine XS.icmpYes X2086.here hx rfl (pc0 := 133) (pc' := 154) rfl (own_hb hby at_133) rfl (flt (fun q => hc133_2088 ((own_ltN (by omega) (by omega)).mp q))).2.2.2 (by decide) (by decide) ?_
      show Steps p.tables e below (T2086.setTop (mkF m 154 #[.val (.int p0), .val (.int p1), .val (.int p2), .val (.int p3), .val (.int i4), .val (.int i5), .val (.int (Int32.ofNat n2)), .val (.ref x), .val (.ref o), .val (.int (Int32.ofNat (k + 1))), .unset, .unset] [])) _
      refine XS.iload X2086.here hx rfl (own_hb hby at_154) rfl ?_
      show Steps p.tables e below (T2086.setTop (mkF m 156 #[.val (.int p0), .val (.int p1), .val (.int p2), .val (.int p3), .val (.int i4), .val (.int i5), .val (.int (Int32.ofNat n2)), .val (.ref x), .val (.ref o), .val (.int (Int32.ofNat (k + 1))), .unset, .unset] [(.int (Int32.ofNat n2))])) _
      refine XS.iconst X2086.here hx rfl (own_hb hby at_156) ?_
      show Steps p.tables e below (T2086.setTop (mkF m 157 #[.val (.int p0), .val (.int p1), .val (.int p2), .val (.int p3), .val (.int i4), .val (.int i5), .val (.int (Int32.ofNat n2)), .val (.ref x), .val (.ref o), .val (.int (Int32.ofNat (k + 1))), .unset, .unset] [(.int (2 : Int32)), (.int (Int32.ofNat n2))])) _
      refine XS.icmpYes X2086.here hx rfl (pc0 := 157) (pc' := 178) rfl (own_hb hby at_157) rfl (flt (fun q => by have h2 := (own_ltN (a := 2) (b := n2) (by omega) (by omega)).mp q; omega)).2.2.2 (by decide) (by decide) ?_
      show Steps p.tables e below (T2086.setTop (mkF m 178 #[.val (.int p0), .val (.int p1), .val (.int p2), .val (.int p3), .val (.int i4), .val (.int i5), .val (.int (Int32.ofNat n2)), .val (.ref x), .val (.ref o), .val (.int (Int32.ofNat (k + 1))), .unset, .unset] [])) _
      refine XS.iload X2086.here hx rfl (own_hb hby at_178) rfl ?_
      show Steps p.tables e below (T2086.setTop (mkF m 180 #[.val (.int p0), .val (.int p1), .val (.int p2), .val (.int p3), .val (.int i4), .val (.int i5), .val (.int (Int32.ofNat n2)), .val (.ref x), .val (.ref o), .val (.int (Int32.ofNat (k + 1))), .unset, .unset] [(.int (Int32.ofNat n2))])) _
      refine XS.iconst X2086.here hx rfl (own_hb hby at_180) ?_
      show Steps p.tables e below (T2086.setTop (mkF m 181 #[.val (.int p0), .val (.int p1), .val (.int p2), .val (.int p3), .val (.int i4), .val (.int i5), .val (.int (Int32.ofNat n2)), .val (.ref x), .val (.ref o), .val (.int (Int32.ofNat (k + 1))), .unset, .unset] [(.int (3 : Int32)), (.int (Int32.ofNat n2))])) _
      refine XS.icmpYes X2086.here hx rfl (pc0 := 181) (pc' := 202) rfl (own_hb hby at_181) rfl (flt (fun q => by have h2 := (own_ltN (a := 3) (b := n2) (by omega) (by omega)).mp q; omega)).2.2.2 (by decide) (by decide) ?_
      show Steps p.tables e below (T2086.setTop (mkF m 202 #[.val (.int p0), .val (.int p1), .val (.int p2), .val (.int p3), .val (.int i4), .val (.int i5), .val (.int (Int32.ofNat n2)), .val (.ref x), .val (.ref o), .val (.int (Int32.ofNat (k + 1))), .unset, .unset] [])) _
      refine XS.iload X2086.here hx rfl (own_hb hby at_202) rfl ?_
      show Steps p.tables e below (T2086.setTop (mkF m 204 #[.val (.int p0), .val (.int p1), .val (.int p2), .val (.int p3), .val (.int i4), .val (.int i5), .val (.int (Int32.ofNat n2)), .val (.ref x), .val (.ref o), .val (.int (Int32.ofNat (k + 1))), .unset, .unset] [(.int (Int32.ofNat n2))])) _
      refine XS.iconst X2086.here hx rfl (own_hb hby at_204) ?_
      show Steps p.tables e below (T2086.setTop (mkF m 205 #[.val (.int p0), .val (.int p1), .val (.int p2), .val (.int p3), .val (.int i4), .val (.int i5), .val (.int (Int32.ofNat n2)), .val (.ref x), .val (.ref o), .val (.int (Int32.ofNat (k + 1))), .unset, .unset] [(.int (4 : Int32)), (.int (Int32.ofNat n2))])) _
      refine XS.icmpYes X2086.here hx rfl (pc0 := 205) (pc' := 228) rfl (own_hb hby at_205) rfl (flt (fun q => by have h2 := (own_ltN (a := 4) (b := n2) (by omega) (by omega)).mp q; omega)).2.2.2 (by decide) (by decide) ?_
      exact kt
    exact seg228 hw hx hZ hby hml hret hlk hown hnm p0 p1 p2 p3 h0 n0 x o (k + 1) cap'2086 (own_set f k (own_bit p1 (2 : Int32))) i4 i5 n2 (own_mono X2086 (by decide) (by decide)) rfl N2086 z2087 p2086_0 p2086_1 (by omega) (by omega)
set_option maxRecDepth 65536 in
set_option maxHeartbeats 40000000 in
theorem rm0 (l : Launch) (Z : State) (a0 : Array Value) (hw : ∀ d ∈ tables_1, d.before a0 Z = true) (ws : List Jvm.Cond) (p0 : Int32) (p1 : Int32) (p2 : Int32) (p3 : Int32) (h0 : Heap) (n0 : Nat) (Z0 : n0 ≤ h0.size)  :
    own_Met l Z h0 x code maxLocals ret ws room_1 #[(.int p0), (.int p1), (.int p2), (.int p3)] (Q_rm0 Z p0 p1 p2 p3 h0 n0) := by
  refine own_enter (plainFor_of_name pn_0) ?_
  intro p e s m below meth c T0 X0 hx hby hml hret hlk hown hnm hZ e0
  have N0 := Fr.nil n0
  rw [show entryFrame m #[(.int p0), (.int p1), (.int p2), (.int p3)] maxLocals = (mkF m 0 #[.val (.int p0), .val (.int p1), .val (.int p2), .val (.int p3), .unset, .unset, .unset, .unset, .unset, .unset, .unset, .unset] []) from by first | (simp [entryFrame, mkF, argsToLocals, Value.category, maxLocals]; done) | rfl]
  obtain ⟨c0, hc0, ec0⟩ : ∃ n : Nat, n ≤ 3 ∧ (p0 &&& (3 : Int32)) = Int32.ofNat n := own_mask _ 3
  obtain ⟨n1, hn1⟩ : ∃ n, n = c0 % 3 := ⟨_, rfl⟩
  have en1 : Int32.ofNat c0 - (Int32.ofNat c0 / (3 : Int32)) * (3 : Int32) = Int32.ofNat n1 := by rw [hn1]; exact own_remN (a := c0) (b := 3) (by omega) (by decide)
  obtain ⟨c1, hc1, ec1⟩ : ∃ n : Nat, n ≤ 7 ∧ (((p0.toUInt32 >>> ((3 : Int32) &&& 31).toUInt32).toInt32) &&& (7 : Int32)) = Int32.ofNat n := own_mask _ 7
  obtain ⟨n2, hn2⟩ : ∃ n, n = 1 + c1 % 5 := ⟨_, rfl⟩
  have en2 : (1 : Int32) + (Int32.ofNat c1 - (Int32.ofNat c1 / (5 : Int32)) * (5 : Int32)) = Int32.ofNat n2 := by rw [hn2, show Int32.ofNat c1 - (Int32.ofNat c1 / (5 : Int32)) * (5 : Int32) = Int32.ofNat (c1 % 5) from own_remN (a := c1) (b := 5) (by omega) (by decide)]; exact own_addN 1 (c1 % 5)
  have hn13 : n1 < 3 := by omega
  have hn25 : n2 ≤ 5 := by omega
  refine own_Go.of (S' := (T0.setTop (mkF m 12 #[.val (.int p0), .val (.int p1), .val (.int p2), .val (.int p3), .val (.int (Int32.ofNat n1)), .unset, .unset, .unset, .unset, .unset, .unset, .unset] [(.int (((p0.toUInt32 >>> ((2 : Int32) &&& 31).toUInt32).toInt32) &&& (1 : Int32)))]))) (fun t kt => ?_) ?_
  · show Steps p.tables e below (T0.setTop (mkF m 0 #[.val (.int p0), .val (.int p1), .val (.int p2), .val (.int p3), .unset, .unset, .unset, .unset, .unset, .unset, .unset, .unset] [])) _
    refine XS.iloadN X0.here hx rfl (own_hb hby at_0) rfl ?_
    show Steps p.tables e below (T0.setTop (mkF m 1 #[.val (.int p0), .val (.int p1), .val (.int p2), .val (.int p3), .unset, .unset, .unset, .unset, .unset, .unset, .unset, .unset] [(.int p0)])) _
    refine XS.iconst X0.here hx rfl (own_hb hby at_1) ?_
    show Steps p.tables e below (T0.setTop (mkF m 2 #[.val (.int p0), .val (.int p1), .val (.int p2), .val (.int p3), .unset, .unset, .unset, .unset, .unset, .unset, .unset, .unset] [(.int (3 : Int32)), (.int p0)])) _
    refine XS.iand X0.here hx rfl (own_hb hby at_2) rfl ?_
    show Steps p.tables e below (T0.setTop (mkF m 3 #[.val (.int p0), .val (.int p1), .val (.int p2), .val (.int p3), .unset, .unset, .unset, .unset, .unset, .unset, .unset, .unset] [(.int (p0 &&& (3 : Int32)))])) _
    rw [ec0]
    show Steps p.tables e below (T0.setTop (mkF m 3 #[.val (.int p0), .val (.int p1), .val (.int p2), .val (.int p3), .unset, .unset, .unset, .unset, .unset, .unset, .unset, .unset] [(.int (Int32.ofNat c0))])) _
    refine XS.iconst X0.here hx rfl (own_hb hby at_3) ?_
    show Steps p.tables e below (T0.setTop (mkF m 4 #[.val (.int p0), .val (.int p1), .val (.int p2), .val (.int p3), .unset, .unset, .unset, .unset, .unset, .unset, .unset, .unset] [(.int (3 : Int32)), (.int (Int32.ofNat c0))])) _
    refine XS.irem X0.here hx rfl (own_hb hby at_4) rfl (by decide) ?_
    show Steps p.tables e below (T0.setTop (mkF m 5 #[.val (.int p0), .val (.int p1), .val (.int p2), .val (.int p3), .unset, .unset, .unset, .unset, .unset, .unset, .unset, .unset] [(.int ((Int32.ofNat c0) - ((Int32.ofNat c0) / (3 : Int32)) * (3 : Int32)))])) _
    rw [en1]
    show Steps p.tables e below (T0.setTop (mkF m 5 #[.val (.int p0), .val (.int p1), .val (.int p2), .val (.int p3), .unset, .unset, .unset, .unset, .unset, .unset, .unset, .unset] [(.int (Int32.ofNat n1))])) _
    refine XS.istore X0.here hx rfl (own_hb hby at_5) rfl (l' := #[.val (.int p0), .val (.int p1), .val (.int p2), .val (.int p3), .val (.int (Int32.ofNat n1)), .unset, .unset, .unset, .unset, .unset, .unset, .unset]) rfl ?_
    show Steps p.tables e below (T0.setTop (mkF m 7 #[.val (.int p0), .val (.int p1), .val (.int p2), .val (.int p3), .val (.int (Int32.ofNat n1)), .unset, .unset, .unset, .unset, .unset, .unset, .unset] [])) _
    refine XS.iloadN X0.here hx rfl (own_hb hby at_7) rfl ?_
    show Steps p.tables e below (T0.setTop (mkF m 8 #[.val (.int p0), .val (.int p1), .val (.int p2), .val (.int p3), .val (.int (Int32.ofNat n1)), .unset, .unset, .unset, .unset, .unset, .unset, .unset] [(.int p0)])) _
    refine XS.iconst X0.here hx rfl (own_hb hby at_8) ?_
    show Steps p.tables e below (T0.setTop (mkF m 9 #[.val (.int p0), .val (.int p1), .val (.int p2), .val (.int p3), .val (.int (Int32.ofNat n1)), .unset, .unset, .unset, .unset, .unset, .unset, .unset] [(.int (2 : Int32)), (.int p0)])) _
    refine XS.iushr X0.here hx rfl (own_hb hby at_9) rfl ?_
    show Steps p.tables e below (T0.setTop (mkF m 10 #[.val (.int p0), .val (.int p1), .val (.int p2), .val (.int p3), .val (.int (Int32.ofNat n1)), .unset, .unset, .unset, .unset, .unset, .unset, .unset] [(.int ((p0.toUInt32 >>> ((2 : Int32) &&& 31).toUInt32).toInt32))])) _
    refine XS.iconst X0.here hx rfl (own_hb hby at_10) ?_
    show Steps p.tables e below (T0.setTop (mkF m 11 #[.val (.int p0), .val (.int p1), .val (.int p2), .val (.int p3), .val (.int (Int32.ofNat n1)), .unset, .unset, .unset, .unset, .unset, .unset, .unset] [(.int (1 : Int32)), (.int ((p0.toUInt32 >>> ((2 : Int32) &&& 31).toUInt32).toInt32))])) _
    refine XS.iand X0.here hx rfl (own_hb hby at_11) rfl ?_
    exact kt
  obtain ⟨v2105, hd2107, st2106⟩ : ∃ v2105 : Int32, ((v2105 = (0 : Int32) ∧ (((p0.toUInt32 >>> ((2 : Int32) &&& 31).toUInt32).toInt32) &&& (1 : Int32)) = (0 : Int32)) ∨ (v2105 = (1 : Int32) ∧ ¬ ((((p0.toUInt32 >>> ((2 : Int32) &&& 31).toUInt32).toInt32) &&& (1 : Int32)) = (0 : Int32)))) ∧ ∀ t, Steps p.tables e below (T0.setTop (mkF m 20 #[.val (.int p0), .val (.int p1), .val (.int p2), .val (.int p3), .val (.int (Int32.ofNat n1)), .unset, .unset, .unset, .unset, .unset, .unset, .unset] [(.int v2105)])) t → Steps p.tables e below (T0.setTop (mkF m 12 #[.val (.int p0), .val (.int p1), .val (.int p2), .val (.int p3), .val (.int (Int32.ofNat n1)), .unset, .unset, .unset, .unset, .unset, .unset, .unset] [(.int (((p0.toUInt32 >>> ((2 : Int32) &&& 31).toUInt32).toInt32) &&& (1 : Int32)))])) t := by
    by_cases hc12_2104 : (((p0.toUInt32 >>> ((2 : Int32) &&& 31).toUInt32).toInt32) &&& (1 : Int32)) = (0 : Int32)
    · skip
      refine ⟨(0 : Int32), (Or.inl (⟨rfl, hc12_2104⟩)), fun t kt => ?_⟩
      show Steps p.tables e below (T0.setTop (mkF m 12 #[.val (.int p0), .val (.int p1), .val (.int p2), .val (.int p3), .val (.int (Int32.ofNat n1)), .unset, .unset, .unset, .unset, .unset, .unset, .unset] [(.int (((p0.toUInt32 >>> ((2 : Int32) &&& 31).toUInt32).toInt32) &&& (1 : Int32)))])) _
      refine XS.ifYes X0.here hx rfl (pc0 := 12) (pc' := 19) rfl (own_hb hby at_12) rfl ((if0 _ _).trans (teq hc12_2104).1) (by decide) (by decide) ?_
      show Steps p.tables e below (T0.setTop (mkF m 19 #[.val (.int p0), .val (.int p1), .val (.int p2), .val (.int p3), .val (.int (Int32.ofNat n1)), .unset, .unset, .unset, .unset, .unset, .unset, .unset] [])) _
      refine XS.iconst X0.here hx rfl (own_hb hby at_19) ?_
      exact kt
    · skip
      refine ⟨(1 : Int32), (Or.inr (⟨rfl, hc12_2104⟩)), fun t kt => ?_⟩
      show Steps p.tables e below (T0.setTop (mkF m 12 #[.val (.int p0), .val (.int p1), .val (.int p2), .val (.int p3), .val (.int (Int32.ofNat n1)), .unset, .unset, .unset, .unset, .unset, .unset, .unset] [(.int (((p0.toUInt32 >>> ((2 : Int32) &&& 31).toUInt32).toInt32) &&& (1 : Int32)))])) _
      refine XS.ifNo X0.here hx rfl (own_hb hby at_12) rfl ((if0 _ _).trans (feq hc12_2104).1) ?_
      show Steps p.tables e below (T0.setTop (mkF m 15 #[.val (.int p0), .val (.int p1), .val (.int p2), .val (.int p3), .val (.int (Int32.ofNat n1)), .unset, .unset, .unset, .unset, .unset, .unset, .unset] [])) _
      refine XS.iconst X0.here hx rfl (own_hb hby at_15) ?_
      show Steps p.tables e below (T0.setTop (mkF m 16 #[.val (.int p0), .val (.int p1), .val (.int p2), .val (.int p3), .val (.int (Int32.ofNat n1)), .unset, .unset, .unset, .unset, .unset, .unset, .unset] [(.int (1 : Int32))])) _
      refine XS.goto X0.here hx rfl (pc0 := 16) (pc' := 20) rfl (own_hb hby at_16) (by decide) (by decide) ?_
      exact kt
  refine own_Go.of (S' := (T0.setTop (mkF m 20 #[.val (.int p0), .val (.int p1), .val (.int p2), .val (.int p3), .val (.int (Int32.ofNat n1)), .unset, .unset, .unset, .unset, .unset, .unset, .unset] [(.int v2105)]))) st2106 ?_
  refine own_Go.of (S' := (T0.setTop (mkF m 36 #[.val (.int p0), .val (.int p1), .val (.int p2), .val (.int p3), .val (.int (Int32.ofNat n1)), .val (.int v2105), .val (.int (Int32.ofNat n2)), .unset, .unset, .unset, .unset, .unset] [(.int (7 : Int32))]))) (fun t kt => ?_) ?_
  · show Steps p.tables e below (T0.setTop (mkF m 20 #[.val (.int p0), .val (.int p1), .val (.int p2), .val (.int p3), .val (.int (Int32.ofNat n1)), .unset, .unset, .unset, .unset, .unset, .unset, .unset] [(.int v2105)])) _
    refine XS.istore X0.here hx rfl (own_hb hby at_20) rfl (l' := #[.val (.int p0), .val (.int p1), .val (.int p2), .val (.int p3), .val (.int (Int32.ofNat n1)), .val (.int v2105), .unset, .unset, .unset, .unset, .unset, .unset]) rfl ?_
    show Steps p.tables e below (T0.setTop (mkF m 22 #[.val (.int p0), .val (.int p1), .val (.int p2), .val (.int p3), .val (.int (Int32.ofNat n1)), .val (.int v2105), .unset, .unset, .unset, .unset, .unset, .unset] [])) _
    refine XS.iconst X0.here hx rfl (own_hb hby at_22) ?_
    show Steps p.tables e below (T0.setTop (mkF m 23 #[.val (.int p0), .val (.int p1), .val (.int p2), .val (.int p3), .val (.int (Int32.ofNat n1)), .val (.int v2105), .unset, .unset, .unset, .unset, .unset, .unset] [(.int (1 : Int32))])) _
    refine XS.iloadN X0.here hx rfl (own_hb hby at_23) rfl ?_
    show Steps p.tables e below (T0.setTop (mkF m 24 #[.val (.int p0), .val (.int p1), .val (.int p2), .val (.int p3), .val (.int (Int32.ofNat n1)), .val (.int v2105), .unset, .unset, .unset, .unset, .unset, .unset] [(.int p0), (.int (1 : Int32))])) _
    refine XS.iconst X0.here hx rfl (own_hb hby at_24) ?_
    show Steps p.tables e below (T0.setTop (mkF m 25 #[.val (.int p0), .val (.int p1), .val (.int p2), .val (.int p3), .val (.int (Int32.ofNat n1)), .val (.int v2105), .unset, .unset, .unset, .unset, .unset, .unset] [(.int (3 : Int32)), (.int p0), (.int (1 : Int32))])) _
    refine XS.iushr X0.here hx rfl (own_hb hby at_25) rfl ?_
    show Steps p.tables e below (T0.setTop (mkF m 26 #[.val (.int p0), .val (.int p1), .val (.int p2), .val (.int p3), .val (.int (Int32.ofNat n1)), .val (.int v2105), .unset, .unset, .unset, .unset, .unset, .unset] [(.int ((p0.toUInt32 >>> ((3 : Int32) &&& 31).toUInt32).toInt32)), (.int (1 : Int32))])) _
    refine XS.bipush X0.here hx rfl (own_hb hby at_26) ?_
    show Steps p.tables e below (T0.setTop (mkF m 28 #[.val (.int p0), .val (.int p1), .val (.int p2), .val (.int p3), .val (.int (Int32.ofNat n1)), .val (.int v2105), .unset, .unset, .unset, .unset, .unset, .unset] [(.int (7 : Int32)), (.int ((p0.toUInt32 >>> ((3 : Int32) &&& 31).toUInt32).toInt32)), (.int (1 : Int32))])) _
    refine XS.iand X0.here hx rfl (own_hb hby at_28) rfl ?_
    show Steps p.tables e below (T0.setTop (mkF m 29 #[.val (.int p0), .val (.int p1), .val (.int p2), .val (.int p3), .val (.int (Int32.ofNat n1)), .val (.int v2105), .unset, .unset, .unset, .unset, .unset, .unset] [(.int (((p0.toUInt32 >>> ((3 : Int32) &&& 31).toUInt32).toInt32) &&& (7 : Int32))), (.int (1 : Int32))])) _
    rw [ec1]
    show Steps p.tables e below (T0.setTop (mkF m 29 #[.val (.int p0), .val (.int p1), .val (.int p2), .val (.int p3), .val (.int (Int32.ofNat n1)), .val (.int v2105), .unset, .unset, .unset, .unset, .unset, .unset] [(.int (Int32.ofNat c1)), (.int (1 : Int32))])) _
    refine XS.iconst X0.here hx rfl (own_hb hby at_29) ?_
    show Steps p.tables e below (T0.setTop (mkF m 30 #[.val (.int p0), .val (.int p1), .val (.int p2), .val (.int p3), .val (.int (Int32.ofNat n1)), .val (.int v2105), .unset, .unset, .unset, .unset, .unset, .unset] [(.int (5 : Int32)), (.int (Int32.ofNat c1)), (.int (1 : Int32))])) _
    refine XS.irem X0.here hx rfl (own_hb hby at_30) rfl (by decide) ?_
    show Steps p.tables e below (T0.setTop (mkF m 31 #[.val (.int p0), .val (.int p1), .val (.int p2), .val (.int p3), .val (.int (Int32.ofNat n1)), .val (.int v2105), .unset, .unset, .unset, .unset, .unset, .unset] [(.int ((Int32.ofNat c1) - ((Int32.ofNat c1) / (5 : Int32)) * (5 : Int32))), (.int (1 : Int32))])) _
    refine XS.iadd X0.here hx rfl (own_hb hby at_31) rfl ?_
    show Steps p.tables e below (T0.setTop (mkF m 32 #[.val (.int p0), .val (.int p1), .val (.int p2), .val (.int p3), .val (.int (Int32.ofNat n1)), .val (.int v2105), .unset, .unset, .unset, .unset, .unset, .unset] [(.int ((1 : Int32) + ((Int32.ofNat c1) - ((Int32.ofNat c1) / (5 : Int32)) * (5 : Int32))))])) _
    rw [en2]
    show Steps p.tables e below (T0.setTop (mkF m 32 #[.val (.int p0), .val (.int p1), .val (.int p2), .val (.int p3), .val (.int (Int32.ofNat n1)), .val (.int v2105), .unset, .unset, .unset, .unset, .unset, .unset] [(.int (Int32.ofNat n2))])) _
    refine XS.istore X0.here hx rfl (own_hb hby at_32) rfl (l' := #[.val (.int p0), .val (.int p1), .val (.int p2), .val (.int p3), .val (.int (Int32.ofNat n1)), .val (.int v2105), .val (.int (Int32.ofNat n2)), .unset, .unset, .unset, .unset, .unset]) rfl ?_
    show Steps p.tables e below (T0.setTop (mkF m 34 #[.val (.int p0), .val (.int p1), .val (.int p2), .val (.int p3), .val (.int (Int32.ofNat n1)), .val (.int v2105), .val (.int (Int32.ofNat n2)), .unset, .unset, .unset, .unset, .unset] [])) _
    refine XS.bipush X0.here hx rfl (own_hb hby at_34) ?_
    exact kt
  obtain ⟨T2108, h2108, X2108, e2108, E2108, A2108, st2108⟩ := own_newP X0 hx hZ (hw _ (List.mem_of_getElem? (i := 0) rfl)) e0 (g := (mkF m 36 #[.val (.int p0), .val (.int p1), .val (.int p2), .val (.int p3), .val (.int (Int32.ofNat n1)), .val (.int v2105), .val (.int (Int32.ofNat n2)), .unset, .unset, .unset, .unset, .unset] [(.int (7 : Int32))])) rfl (own_hb hby at_36) rfl (n := 7) (cap := 7) rfl (by decide) (by decide) (by decide) (by decide)
  obtain ⟨b2108, g2108⟩ : ∃ z, z = h0.size := ⟨_, rfl⟩
  rw [← g2108] at A2108 st2108
  have gx2108 : n0 ≤ b2108 := Nat.le_trans Z0 (Nat.le_of_eq g2108.symm)
  refine own_Go.of (S' := (T2108.setTop (mkF m 38 #[.val (.int p0), .val (.int p1), .val (.int p2), .val (.int p3), .val (.int (Int32.ofNat n1)), .val (.int v2105), .val (.int (Int32.ofNat n2)), .unset, .unset, .unset, .unset, .unset] [(.ref b2108)]))) st2108 ?_
  have z2109 : n0 ≤ h2108.size := Nat.le_trans Z0 E2108.1
  have f2110 : own_Ar Z h2108 b2108 .boolean 7 (own_I (fun _ => (0 : Int32))) := A2108
  refine own_Go.of (S' := (T2108.setTop (mkF m 40 #[.val (.int p0), .val (.int p1), .val (.int p2), .val (.int p3), .val (.int (Int32.ofNat n1)), .val (.int v2105), .val (.int (Int32.ofNat n2)), .val (.ref b2108), .unset, .unset, .unset, .unset] []))) (fun t kt => ?_) ?_
  · show Steps p.tables e below (T2108.setTop (mkF m 38 #[.val (.int p0), .val (.int p1), .val (.int p2), .val (.int p3), .val (.int (Int32.ofNat n1)), .val (.int v2105), .val (.int (Int32.ofNat n2)), .unset, .unset, .unset, .unset, .unset] [(.ref b2108)])) _
    refine XS.astore X2108.here hx rfl (own_hb hby at_38) rfl rfl (l' := #[.val (.int p0), .val (.int p1), .val (.int p2), .val (.int p3), .val (.int (Int32.ofNat n1)), .val (.int v2105), .val (.int (Int32.ofNat n2)), .val (.ref b2108), .unset, .unset, .unset, .unset]) rfl ?_
    exact kt
  obtain ⟨T2111, h2111, X2111, e2111, E2111, A2111, D2111, -, st2111⟩ := newO X2108 hx hZ hown (hw _ (List.mem_of_getElem? (i := 1) rfl)) (hw _ (List.mem_of_getElem? (i := 2) rfl)) (hw _ (List.mem_of_getElem? (i := 3) rfl)) e2108 (g := (mkF m 40 #[.val (.int p0), .val (.int p1), .val (.int p2), .val (.int p3), .val (.int (Int32.ofNat n1)), .val (.int v2105), .val (.int (Int32.ofNat n2)), .val (.ref b2108), .unset, .unset, .unset, .unset] [])) rfl (own_hb hby at_40) (by decide) (by decide)
  obtain ⟨b2111, g2111⟩ : ∃ z, z = h2108.size := ⟨_, rfl⟩
  rw [← g2111] at A2111 D2111 st2111
  have gx2111 : n0 ≤ b2111 := Nat.le_trans z2109 (Nat.le_of_eq g2111.symm)
  have ne2112 : b2108 ≠ b2111 := Nat.ne_of_lt (Nat.lt_of_lt_of_le f2110.lt (Nat.le_of_eq g2111.symm))
  refine own_Go.of (S' := (T2111.setTop (mkF m 43 #[.val (.int p0), .val (.int p1), .val (.int p2), .val (.int p3), .val (.int (Int32.ofNat n1)), .val (.int v2105), .val (.int (Int32.ofNat n2)), .val (.ref b2108), .unset, .unset, .unset, .unset] [(.ref b2111)]))) st2111 ?_
  have f2113 : own_Ar Z h2111 b2108 .boolean 7 (own_I (fun _ => (0 : Int32))) := f2110.ext E2111
  have z2114 : n0 ≤ h2111.size := Nat.le_trans z2109 E2111.1
  have f2115 : Fld Z h2111 b2111 "com/example/quayside/quayside/Row" "bytes" "[B" .null := D2111 (Or.inl (hw _ (List.mem_of_getElem? (i := 12) rfl))) (ty := (.array .byte)) (by decide)
  have f2116 : Fld Z h2111 b2111 "com/example/quayside/quayside/Row" "starts" "[I" .null := D2111 (Or.inl (hw _ (List.mem_of_getElem? (i := 15) rfl))) (ty := (.array .int)) (by decide)
  have f2117 : Fld Z h2111 b2111 "com/example/quayside/quayside/Row" "ends" "[I" .null := D2111 (Or.inl (hw _ (List.mem_of_getElem? (i := 17) rfl))) (ty := (.array .int)) (by decide)
  have f2118 : Fld Z h2111 b2111 "com/example/quayside/quayside/Row" "size" "I" (.int (0 : Int32)) := D2111 (Or.inl (hw _ (List.mem_of_getElem? (i := 31) rfl))) (ty := .int) (by decide)
  have f2119 : Fld Z h2111 b2111 "com/example/quayside/quayside/Row" "reach" "I" (.int (0 : Int32)) := D2111 (Or.inl (hw _ (List.mem_of_getElem? (i := 33) rfl))) (ty := .int) (by decide)
  have f2120 : Fld Z h2111 b2111 "com/example/quayside/quayside/Row" "text" "Z" (.int (0 : Int32)) := D2111 (Or.inl (hw _ (List.mem_of_getElem? (i := 39) rfl))) (ty := .boolean) (by decide)
  have f2121 : Fld Z h2111 b2111 "com/example/quayside/quayside/Row" "nullCount" "I" (.int (0 : Int32)) := D2111 (Or.inl (hw _ (List.mem_of_getElem? (i := 52) rfl))) (ty := .int) (by decide)
  have f2122 : Fld Z h2111 b2111 "com/example/quayside/quayside/Row" "nulls" "[Z" .null := D2111 (Or.inl (hw _ (List.mem_of_getElem? (i := 65) rfl))) (ty := (.array .boolean)) (by decide)
  refine own_Go.of (S' := (T2111.setTop (mkF m 44 #[.val (.int p0), .val (.int p1), .val (.int p2), .val (.int p3), .val (.int (Int32.ofNat n1)), .val (.int v2105), .val (.int (Int32.ofNat n2)), .val (.ref b2108), .unset, .unset, .unset, .unset] [(.ref b2111), (.ref b2111)]))) (fun t kt => ?_) ?_
  · show Steps p.tables e below (T2111.setTop (mkF m 43 #[.val (.int p0), .val (.int p1), .val (.int p2), .val (.int p3), .val (.int (Int32.ofNat n1)), .val (.int v2105), .val (.int (Int32.ofNat n2)), .val (.ref b2108), .unset, .unset, .unset, .unset] [(.ref b2111)])) _
    refine XS.dup X2111.here hx rfl (own_hb hby at_43) rfl rfl ?_
    exact kt
  have hLx : own_Lt h2111 b2108 := f2113.lt
  obtain ⟨_, _, ⟨T2123, L2123, k2123, n2123⟩, -, X2123, ⟨Lc2123, hQ2123, l2123, y2123, z2123⟩, st2123⟩ := X2111.specialBack hx (y := (⟨"com/example/quayside/quayside/Row", "<init>", "()V"⟩ : MethodName)) rfl hown (mvT hZ (hw _ (List.mem_of_getElem? (i := 4) rfl))) (mvT hZ (hw _ (List.mem_of_getElem? (i := 5) rfl))) (mvT hZ (hw _ (List.mem_of_getElem? (i := 6) rfl))) (by decide) (backOf (W := 1) (rm1 l Z a0 hw [] b2108 b2111 (fun _ => (0 : Int32)) .null .null .null h2111 n0 z2114 A2111 f2115 f2116 f2117 f2118 f2119 f2120 f2122 f2121 gx2111 hLx ne2112) hZ (hw _ (List.mem_of_getElem? (i := 6) rfl)) (hw _ (List.mem_of_getElem? (i := 3) rfl)) (by decide) (by decide)) (g := (mkF m 44 #[.val (.int p0), .val (.int p1), .val (.int p2), .val (.int p3), .val (.int (Int32.ofNat n1)), .val (.int v2105), .val (.int (Int32.ofNat n2)), .val (.ref b2108), .unset, .unset, .unset, .unset] [(.ref b2111), (.ref b2111)])) rfl (by rw [hml]; rfl) (Steps.refl _) (a := b2111) (argsL := []) (rest := [(.ref b2111)]) (lenOf pd_5 rfl) rfl (by show 2 * 0 + _ ≤ _; exact Nat.le_of_eq rfl) (own_hb hby at_44) (fun _ _ => ⟨rfl, e2111, (by decide : 2 + 3 ≤ _), (by decide : 15 + 8 ≤ _)⟩)
  dsimp only [Pt.U, Pt.locs, Pt.cells, Pt.slots] at X2123 l2123 y2123 z2123 st2123 hQ2123
  subst l2123 y2123 z2123
  obtain ⟨rfl, N2123q, K2123, p2123_0⟩ := hQ2123
  have N2123 := Fr.app N0 N2123q
  refine own_Go.of (S' := (T2123.setTop (mkF m 47 #[.val (.int p0), .val (.int p1), .val (.int p2), .val (.int p3), .val (.int (Int32.ofNat n1)), .val (.int v2105), .val (.int (Int32.ofNat n2)), .val (.ref b2108), .unset, .unset, .unset, .unset] [(.ref b2111)]))) (fun t kt => st2123.trans kt) ?_
  have f2124 : own_Ar Z T2123.heap b2108 .boolean 7 (own_I (fun _ => (0 : Int32))) := f2113.kx K2123
  have f2125 : own_Lt T2123.heap b2108 := hLx.kx K2123
  have z2126 : n0 ≤ T2123.heap.size := Nat.le_trans z2114 K2123.1
  refine own_Go.of (S' := (T2123.setTop (mkF m 54 #[.val (.int p0), .val (.int p1), .val (.int p2), .val (.int p3), .val (.int (Int32.ofNat n1)), .val (.int v2105), .val (.int (Int32.ofNat n2)), .val (.ref b2108), .val (.ref b2111), .val (.int (0 : Int32)), .unset, .unset] [(.int (Int32.ofNat n1))]))) (fun t kt => ?_) ?_
  · show Steps p.tables e below (T2123.setTop (mkF m 47 #[.val (.int p0), .val (.int p1), .val (.int p2), .val (.int p3), .val (.int (Int32.ofNat n1)), .val (.int v2105), .val (.int (Int32.ofNat n2)), .val (.ref b2108), .unset, .unset, .unset, .unset] [(.ref b2111)])) _
    refine XS.astore X2123.here hx rfl (own_hb hby at_47) rfl rfl (l' := #[.val (.int p0), .val (.int p1), .val (.int p2), .val (.int p3), .val (.int (Int32.ofNat n1)), .val (.int v2105), .val (.int (Int32.ofNat n2)), .val (.ref b2108), .val (.ref b2111), .unset, .unset, .unset]) rfl ?_
    show Steps p.tables e below (T2123.setTop (mkF m 49 #[.val (.int p0), .val (.int p1), .val (.int p2), .val (.int p3), .val (.int (Int32.ofNat n1)), .val (.int v2105), .val (.int (Int32.ofNat n2)), .val (.ref b2108), .val (.ref b2111), .unset, .unset, .unset] [])) _
    refine XS.iconst X2123.here hx rfl (own_hb hby at_49) ?_
    show Steps p.tables e below (T2123.setTop (mkF m 50 #[.val (.int p0), .val (.int p1), .val (.int p2), .val (.int p3), .val (.int (Int32.ofNat n1)), .val (.int v2105), .val (.int (Int32.ofNat n2)), .val (.ref b2108), .val (.ref b2111), .unset, .unset, .unset] [(.int (0 : Int32))])) _
    refine XS.istore X2123.here hx rfl (own_hb hby at_50) rfl (l' := #[.val (.int p0), .val (.int p1), .val (.int p2), .val (.int p3), .val (.int (Int32.ofNat n1)), .val (.int v2105), .val (.int (Int32.ofNat n2)), .val (.ref b2108), .val (.ref b2111), .val (.int (0 : Int32)), .unset, .unset]) rfl ?_
    show Steps p.tables e below (T2123.setTop (mkF m 52 #[.val (.int p0), .val (.int p1), .val (.int p2), .val (.int p3), .val (.int (Int32.ofNat n1)), .val (.int v2105), .val (.int (Int32.ofNat n2)), .val (.ref b2108), .val (.ref b2111), .val (.int (0 : Int32)), .unset, .unset] [])) _
    refine XS.iload X2123.here hx rfl (own_hb hby at_52) rfl ?_
    exact kt
  by_cases hc54_2127 : 0 < n1
  · skip
    refine own_Go.of (S' := (T2123.setTop (mkF m 65 #[.val (.int p0), .val (.int p1), .val (.int p2), .val (.int p3), .val (.int (Int32.ofNat n1)), .val (.int v2105), .val (.int (Int32.ofNat n2)), .val (.ref b2108), .val (.ref b2111), .val (.int (0 : Int32)), .unset, .unset] [(.int (0 : Int32)), (.int p1), (.int (0 : Int32)), (.ref b2108), (.ref b2111)]))) (fun t kt => ?_) ?_
    · show Steps p.tables e below (T2123.setTop (mkF m 54 #[.val (.int p0), .val (.int p1), .val (.int p2), .val (.int p3), .val (.int (Int32.ofNat n1)), .val (.int v2105), .val (.int (Int32.ofNat n2)), .val (.ref b2108), .val (.ref b2111), .val (.int (0 : Int32)), .unset, .unset] [(.int (Int32.ofNat n1))])) _
      refine XS.ifNo X2123.here hx rfl (own_hb hby at_54) rfl ((if0 _ _).trans (tlt ((own_ltN (by omega) (by omega)).mpr hc54_2127)).2.2.2) ?_
      show Steps p.tables e below (T2123.setTop (mkF m 57 #[.val (.int p0), .val (.int p1), .val (.int p2), .val (.int p3), .val (.int (Int32.ofNat n1)), .val (.int v2105), .val (.int (Int32.ofNat n2)), .val (.ref b2108), .val (.ref b2111), .val (.int (0 : Int32)), .unset, .unset] [])) _
      refine XS.aload X2123.here hx rfl (own_hb hby at_57) rfl rfl ?_
      show Steps p.tables e below (T2123.setTop (mkF m 59 #[.val (.int p0), .val (.int p1), .val (.int p2), .val (.int p3), .val (.int (Int32.ofNat n1)), .val (.int v2105), .val (.int (Int32.ofNat n2)), .val (.ref b2108), .val (.ref b2111), .val (.int (0 : Int32)), .unset, .unset] [(.ref b2111)])) _
      refine XS.aload X2123.here hx rfl (own_hb hby at_59) rfl rfl ?_
      show Steps p.tables e below (T2123.setTop (mkF m 61 #[.val (.int p0), .val (.int p1), .val (.int p2), .val (.int p3), .val (.int (Int32.ofNat n1)), .val (.int v2105), .val (.int (Int32.ofNat n2)), .val (.ref b2108), .val (.ref b2111), .val (.int (0 : Int32)), .unset, .unset] [(.ref b2108), (.ref b2111)])) _
      refine XS.iload X2123.here hx rfl (own_hb hby at_61) rfl ?_
      show Steps p.tables e below (T2123.setTop (mkF m 63 #[.val (.int p0), .val (.int p1), .val (.int p2), .val (.int p3), .val (.int (Int32.ofNat n1)), .val (.int v2105), .val (.int (Int32.ofNat n2)), .val (.ref b2108), .val (.ref b2111), .val (.int (0 : Int32)), .unset, .unset] [(.int (0 : Int32)), (.ref b2108), (.ref b2111)])) _
      refine XS.iloadN X2123.here hx rfl (own_hb hby at_63) rfl ?_
      show Steps p.tables e below (T2123.setTop (mkF m 64 #[.val (.int p0), .val (.int p1), .val (.int p2), .val (.int p3), .val (.int (Int32.ofNat n1)), .val (.int v2105), .val (.int (Int32.ofNat n2)), .val (.ref b2108), .val (.ref b2111), .val (.int (0 : Int32)), .unset, .unset] [(.int p1), (.int (0 : Int32)), (.ref b2108), (.ref b2111)])) _
      refine XS.iconst X2123.here hx rfl (own_hb hby at_64) ?_
      exact kt
    obtain ⟨_, _, ⟨T2128, L2128, k2128, n2128⟩, -, X2128, ⟨Lc2128, hQ2128, l2128, y2128, z2128⟩, st2128⟩ := Jvm.LawKit.callS X2123 hx (y := (⟨"com/example/quayside/quayside/RowIsNullPinLaw", "bit", "(II)Z"⟩ : MethodName)) hown (mvT hZ (hw _ (List.mem_of_getElem? (i := 18) rfl))) (mvT hZ (hw _ (List.mem_of_getElem? (i := 19) rfl))) (mvT hZ (hw _ (List.mem_of_getElem? (i := 20) rfl))) (mvT hZ (hw _ (List.mem_of_getElem? (i := 21) rfl))) (by decide) (backOf (W := 3) (rm3 l Z a0 hw [] p1 (0 : Int32) T2123.heap n0 z2126 ) hZ (hw _ (List.mem_of_getElem? (i := 21) rfl)) (hw _ (List.mem_of_getElem? (i := 20) rfl)) (by decide) (by decide)) (g := (mkF m 65 #[.val (.int p0), .val (.int p1), .val (.int p2), .val (.int p3), .val (.int (Int32.ofNat n1)), .val (.int v2105), .val (.int (Int32.ofNat n2)), .val (.ref b2108), .val (.ref b2111), .val (.int (0 : Int32)), .unset, .unset] [(.int (0 : Int32)), (.int p1), (.int (0 : Int32)), (.ref b2108), (.ref b2111)])) rfl (by rw [hml]; rfl) (argsL := [(.int p1), (.int (0 : Int32))]) (rest := [(.int (0 : Int32)), (.ref b2108), (.ref b2111)]) (lenOf pd_8 rfl) rfl (by show 2 * 0 + _ ≤ _; exact Nat.le_of_eq rfl) (own_hb hby at_65) (fun _ _ => ⟨rfl, rfl, (by decide : 5 + 0 ≤ _), (by decide : 23 + 0 ≤ _)⟩)
    dsimp only [Pt.U, Pt.locs, Pt.cells, Pt.slots] at X2128 l2128 y2128 z2128 st2128 hQ2128
    subst l2128 y2128 z2128
    obtain ⟨rfl, N2128q, hh2128⟩ := hQ2128
    have N2128 := Fr.app N2123 N2128q
    refine own_Go.of (S' := (T2128.setTop (mkF m 68 #[.val (.int p0), .val (.int p1), .val (.int p2), .val (.int p3), .val (.int (Int32.ofNat n1)), .val (.int v2105), .val (.int (Int32.ofNat n2)), .val (.ref b2108), .val (.ref b2111), .val (.int (0 : Int32)), .unset, .unset] [(.int (own_bit p1 (0 : Int32))), (.int (0 : Int32)), (.ref b2108), (.ref b2111)]))) (fun t kt => st2128 t kt) ?_
    refine own_Go.of (S' := (T2128.setTop (mkF m 70 #[.val (.int p0), .val (.int p1), .val (.int p2), .val (.int p3), .val (.int (Int32.ofNat n1)), .val (.int v2105), .val (.int (Int32.ofNat n2)), .val (.ref b2108), .val (.ref b2111), .val (.int (0 : Int32)), .unset, .unset] [(.int (0 : Int32)), (.int p2), (.int (own_bit p1 (0 : Int32))), (.int (0 : Int32)), (.ref b2108), (.ref b2111)]))) (fun t kt => ?_) ?_
    · show Steps p.tables e below (T2128.setTop (mkF m 68 #[.val (.int p0), .val (.int p1), .val (.int p2), .val (.int p3), .val (.int (Int32.ofNat n1)), .val (.int v2105), .val (.int (Int32.ofNat n2)), .val (.ref b2108), .val (.ref b2111), .val (.int (0 : Int32)), .unset, .unset] [(.int (own_bit p1 (0 : Int32))), (.int (0 : Int32)), (.ref b2108), (.ref b2111)])) _
      refine XS.iloadN X2128.here hx rfl (own_hb hby at_68) rfl ?_
      show Steps p.tables e below (T2128.setTop (mkF m 69 #[.val (.int p0), .val (.int p1), .val (.int p2), .val (.int p3), .val (.int (Int32.ofNat n1)), .val (.int v2105), .val (.int (Int32.ofNat n2)), .val (.ref b2108), .val (.ref b2111), .val (.int (0 : Int32)), .unset, .unset] [(.int p2), (.int (own_bit p1 (0 : Int32))), (.int (0 : Int32)), (.ref b2108), (.ref b2111)])) _
      refine XS.iconst X2128.here hx rfl (own_hb hby at_69) ?_
      exact kt
    obtain ⟨_, _, ⟨T2129, L2129, k2129, n2129⟩, -, X2129, ⟨Lc2129, hQ2129, l2129, y2129, z2129⟩, st2129⟩ := Jvm.LawKit.callS X2128 hx (y := (⟨"com/example/quayside/quayside/RowIsNullPinLaw", "put", "(Lcom/example/quayside/quayside/Row;[ZIZII)I"⟩ : MethodName)) hown (mvT hZ (hw _ (List.mem_of_getElem? (i := 22) rfl))) (mvT hZ (hw _ (List.mem_of_getElem? (i := 23) rfl))) (mvT hZ (hw _ (List.mem_of_getElem? (i := 20) rfl))) (mvT hZ (hw _ (List.mem_of_getElem? (i := 24) rfl))) (by decide) (backOf (W := 0) (rm4s l Z a0 hw [] b2111 b2108 0 (own_bit p1 (0 : Int32)) p2 (0 : Int32) 4 (fun _ => (0 : Int32)) T2123.heap n0 z2126 p2123_0 f2124 gx2108 (own_bit01 p1 (0 : Int32)) (by omega) (by omega)) hZ (hw _ (List.mem_of_getElem? (i := 24) rfl)) (hw _ (List.mem_of_getElem? (i := 20) rfl)) (by decide) (by decide)) (g := (mkF m 70 #[.val (.int p0), .val (.int p1), .val (.int p2), .val (.int p3), .val (.int (Int32.ofNat n1)), .val (.int v2105), .val (.int (Int32.ofNat n2)), .val (.ref b2108), .val (.ref b2111), .val (.int (0 : Int32)), .unset, .unset] [(.int (0 : Int32)), (.int p2), (.int (own_bit p1 (0 : Int32))), (.int (0 : Int32)), (.ref b2108), (.ref b2111)])) rfl (by rw [hml]; rfl) (argsL := [(.ref b2111), (.ref b2108), (.int (0 : Int32)), (.int (own_bit p1 (0 : Int32))), (.int p2), (.int (0 : Int32))]) (rest := []) (lenOf pd_9 rfl) rfl (by show 2 * 0 + _ ≤ _; exact Nat.le_of_eq rfl) (own_hb hby at_70) (fun _ _ => ⟨rfl, hh2128, (by decide : 5 + 2 ≤ _), (by decide : 23 + 8 ≤ _)⟩)
    dsimp only [Pt.U, Pt.locs, Pt.cells, Pt.slots] at X2129 l2129 y2129 z2129 st2129 hQ2129
    subst l2129 y2129 z2129
    obtain ⟨rfl, N2129q, K2129, p2129_0, p2129_1⟩ := hQ2129
    have N2129 := Fr.app N2128 N2129q
    refine own_Go.of (S' := (T2129.setTop (mkF m 73 #[.val (.int p0), .val (.int p1), .val (.int p2), .val (.int p3), .val (.int (Int32.ofNat n1)), .val (.int v2105), .val (.int (Int32.ofNat n2)), .val (.ref b2108), .val (.ref b2111), .val (.int (0 : Int32)), .unset, .unset] [(.int (Int32.ofNat (0 + 1)))]))) (fun t kt => st2129 t kt) ?_
    have f2130 : own_Lt T2129.heap b2108 := f2125.le K2129
    have z2131 : n0 ≤ T2129.heap.size := Nat.le_trans z2126 K2129
    refine own_Go.of (S' := (T2129.setTop (mkF m 78 #[.val (.int p0), .val (.int p1), .val (.int p2), .val (.int p3), .val (.int (Int32.ofNat n1)), .val (.int v2105), .val (.int (Int32.ofNat n2)), .val (.ref b2108), .val (.ref b2111), .val (.int (Int32.ofNat (0 + 1))), .unset, .unset] [(.int (1 : Int32)), (.int (Int32.ofNat n1))]))) (fun t kt => ?_) ?_
    · show Steps p.tables e below (T2129.setTop (mkF m 73 #[.val (.int p0), .val (.int p1), .val (.int p2), .val (.int p3), .val (.int (Int32.ofNat n1)), .val (.int v2105), .val (.int (Int32.ofNat n2)), .val (.ref b2108), .val (.ref b2111), .val (.int (0 : Int32)), .unset, .unset] [(.int (Int32.ofNat (0 + 1)))])) _
      refine XS.istore X2129.here hx rfl (own_hb hby at_73) rfl (l' := #[.val (.int p0), .val (.int p1), .val (.int p2), .val (.int p3), .val (.int (Int32.ofNat n1)), .val (.int v2105), .val (.int (Int32.ofNat n2)), .val (.ref b2108), .val (.ref b2111), .val (.int (Int32.ofNat (0 + 1))), .unset, .unset]) rfl ?_
      show Steps p.tables e below (T2129.setTop (mkF m 75 #[.val (.int p0), .val (.int p1), .val (.int p2), .val (.int p3), .val (.int (Int32.ofNat n1)), .val (.int v2105), .val (.int (Int32.ofNat n2)), .val (.ref b2108), .val (.ref b2111), .val (.int (Int32.ofNat (0 + 1))), .unset, .unset] [])) _
      refine XS.iload X2129.here hx rfl (own_hb hby at_75) rfl ?_
      show Steps p.tables e below (T2129.setTop (mkF m 77 #[.val (.int p0), .val (.int p1), .val (.int p2), .val (.int p3), .val (.int (Int32.ofNat n1)), .val (.int v2105), .val (.int (Int32.ofNat n2)), .val (.ref b2108), .val (.ref b2111), .val (.int (Int32.ofNat (0 + 1))), .unset, .unset] [(.int (Int32.ofNat n1))])) _
      refine XS.iconst X2129.here hx rfl (own_hb hby at_77) ?_
      exact kt
    by_cases hc78_2132 : 1 < n1
    · skip
      refine own_Go.of (S' := (T2129.setTop (mkF m 89 #[.val (.int p0), .val (.int p1), .val (.int p2), .val (.int p3), .val (.int (Int32.ofNat n1)), .val (.int v2105), .val (.int (Int32.ofNat n2)), .val (.ref b2108), .val (.ref b2111), .val (.int (Int32.ofNat (0 + 1))), .unset, .unset] [(.int (1 : Int32)), (.int p1), (.int (Int32.ofNat (0 + 1))), (.ref b2108), (.ref b2111)]))) (fun t kt => ?_) ?_
      · show Steps p.tables e below (T2129.setTop (mkF m 78 #[.val (.int p0), .val (.int p1), .val (.int p2), .val (.int p3), .val (.int (Int32.ofNat n1)), .val (.int v2105), .val (.int (Int32.ofNat n2)), .val (.ref b2108), .val (.ref b2111), .val (.int (Int32.ofNat (0 + 1))), .unset, .unset] [(.int (1 : Int32)), (.int (Int32.ofNat n1))])) _
        refine XS.icmpNo X2129.here hx rfl (own_hb hby at_78) rfl (tlt ((own_ltN (by omega) (by omega)).mpr hc78_2132)).2.2.2 ?_
        show Steps p.tables e below (T2129.setTop (mkF m 81 #[.val (.int p0), .val (.int p1), .val (.int p2), .val (.int p3), .val (.int (Int32.ofNat n1)), .val (.int v2105), .val (.int (Int32.ofNat n2)), .val (.ref b2108), .val (.ref b2111), .val (.int (Int32.ofNat (0 + 1))), .unset, .unset] [])) _
        refine XS.aload X2129.here hx rfl (own_hb hby at_81) rfl rfl ?_
        show Steps p.tables e below (T2129.setTop (mkF m 83 #[.val (.int p0), .val (.int p1), .val (.int p2), .val (.int p3), .val (.int (Int32.ofNat n1)), .val (.int v2105), .val (.int (Int32.ofNat n2)), .val (.ref b2108), .val (.ref b2111), .val (.int (Int32.ofNat (0 + 1))), .unset, .unset] [(.ref b2111)])) _
        refine XS.aload X2129.here hx rfl (own_hb hby at_83) rfl rfl ?_
        show Steps p.tables e below (T2129.setTop (mkF m 85 #[.val (.int p0), .val (.int p1), .val (.int p2), .val (.int p3), .val (.int (Int32.ofNat n1)), .val (.int v2105), .val (.int (Int32.ofNat n2)), .val (.ref b2108), .val (.ref b2111), .val (.int (Int32.ofNat (0 + 1))), .unset, .unset] [(.ref b2108), (.ref b2111)])) _
        refine XS.iload X2129.here hx rfl (own_hb hby at_85) rfl ?_
        show Steps p.tables e below (T2129.setTop (mkF m 87 #[.val (.int p0), .val (.int p1), .val (.int p2), .val (.int p3), .val (.int (Int32.ofNat n1)), .val (.int v2105), .val (.int (Int32.ofNat n2)), .val (.ref b2108), .val (.ref b2111), .val (.int (Int32.ofNat (0 + 1))), .unset, .unset] [(.int (Int32.ofNat (0 + 1))), (.ref b2108), (.ref b2111)])) _
        refine XS.iloadN X2129.here hx rfl (own_hb hby at_87) rfl ?_
        show Steps p.tables e below (T2129.setTop (mkF m 88 #[.val (.int p0), .val (.int p1), .val (.int p2), .val (.int p3), .val (.int (Int32.ofNat n1)), .val (.int v2105), .val (.int (Int32.ofNat n2)), .val (.ref b2108), .val (.ref b2111), .val (.int (Int32.ofNat (0 + 1))), .unset, .unset] [(.int p1), (.int (Int32.ofNat (0 + 1))), (.ref b2108), (.ref b2111)])) _
        refine XS.iconst X2129.here hx rfl (own_hb hby at_88) ?_
        exact kt
      obtain ⟨_, _, ⟨T2133, L2133, k2133, n2133⟩, -, X2133, ⟨Lc2133, hQ2133, l2133, y2133, z2133⟩, st2133⟩ := Jvm.LawKit.callS X2129 hx (y := (⟨"com/example/quayside/quayside/RowIsNullPinLaw", "bit", "(II)Z"⟩ : MethodName)) hown (mvT hZ (hw _ (List.mem_of_getElem? (i := 18) rfl))) (mvT hZ (hw _ (List.mem_of_getElem? (i := 19) rfl))) (mvT hZ (hw _ (List.mem_of_getElem? (i := 20) rfl))) (mvT hZ (hw _ (List.mem_of_getElem? (i := 21) rfl))) (by decide) (backOf (W := 3) (rm3 l Z a0 hw [] p1 (1 : Int32) T2129.heap n0 z2131 ) hZ (hw _ (List.mem_of_getElem? (i := 21) rfl)) (hw _ (List.mem_of_getElem? (i := 20) rfl)) (by decide) (by decide)) (g := (mkF m 89 #[.val (.int p0), .val (.int p1), .val (.int p2), .val (.int p3), .val (.int (Int32.ofNat n1)), .val (.int v2105), .val (.int (Int32.ofNat n2)), .val (.ref b2108), .val (.ref b2111), .val (.int (Int32.ofNat (0 + 1))), .unset, .unset] [(.int (1 : Int32)), (.int p1), (.int (Int32.ofNat (0 + 1))), (.ref b2108), (.ref b2111)])) rfl (by rw [hml]; rfl) (argsL := [(.int p1), (.int (1 : Int32))]) (rest := [(.int (Int32.ofNat (0 + 1))), (.ref b2108), (.ref b2111)]) (lenOf pd_8 rfl) rfl (by show 2 * 0 + _ ≤ _; exact Nat.le_of_eq rfl) (own_hb hby at_89) (fun _ _ => ⟨rfl, rfl, (by decide : 7 + 0 ≤ _), (by decide : 31 + 0 ≤ _)⟩)
      dsimp only [Pt.U, Pt.locs, Pt.cells, Pt.slots] at X2133 l2133 y2133 z2133 st2133 hQ2133
      subst l2133 y2133 z2133
      obtain ⟨rfl, N2133q, hh2133⟩ := hQ2133
      have N2133 := Fr.app N2129 N2133q
      refine own_Go.of (S' := (T2133.setTop (mkF m 92 #[.val (.int p0), .val (.int p1), .val (.int p2), .val (.int p3), .val (.int (Int32.ofNat n1)), .val (.int v2105), .val (.int (Int32.ofNat n2)), .val (.ref b2108), .val (.ref b2111), .val (.int (Int32.ofNat (0 + 1))), .unset, .unset] [(.int (own_bit p1 (1 : Int32))), (.int (Int32.ofNat (0 + 1))), (.ref b2108), (.ref b2111)]))) (fun t kt => st2133 t kt) ?_
      refine own_Go.of (S' := (T2133.setTop (mkF m 94 #[.val (.int p0), .val (.int p1), .val (.int p2), .val (.int p3), .val (.int (Int32.ofNat n1)), .val (.int v2105), .val (.int (Int32.ofNat n2)), .val (.ref b2108), .val (.ref b2111), .val (.int (Int32.ofNat (0 + 1))), .unset, .unset] [(.int (1 : Int32)), (.int p2), (.int (own_bit p1 (1 : Int32))), (.int (Int32.ofNat (0 + 1))), (.ref b2108), (.ref b2111)]))) (fun t kt => ?_) ?_
      · show Steps p.tables e below (T2133.setTop (mkF m 92 #[.val (.int p0), .val (.int p1), .val (.int p2), .val (.int p3), .val (.int (Int32.ofNat n1)), .val (.int v2105), .val (.int (Int32.ofNat n2)), .val (.ref b2108), .val (.ref b2111), .val (.int (Int32.ofNat (0 + 1))), .unset, .unset] [(.int (own_bit p1 (1 : Int32))), (.int (Int32.ofNat (0 + 1))), (.ref b2108), (.ref b2111)])) _
        refine XS.iloadN X2133.here hx rfl (own_hb hby at_92) rfl ?_
        show Steps p.tables e below (T2133.setTop (mkF m 93 #[.val (.int p0), .val (.int p1), .val (.int p2), .val (.int p3), .val (.int (Int32.ofNat n1)), .val (.int v2105), .val (.int (Int32.ofNat n2)), .val (.ref b2108), .val (.ref b2111), .val (.int (Int32.ofNat (0 + 1))), .unset, .unset] [(.int p2), (.int (own_bit p1 (1 : Int32))), (.int (Int32.ofNat (0 + 1))), (.ref b2108), (.ref b2111)])) _
        refine XS.iconst X2133.here hx rfl (own_hb hby at_93) ?_
        exact kt
      obtain ⟨_, _, ⟨T2134, L2134, k2134, n2134⟩, -, X2134, ⟨Lc2134, hQ2134, l2134, y2134, z2134⟩, st2134⟩ := Jvm.LawKit.callS X2133 hx (y := (⟨"com/example/quayside/quayside/RowIsNullPinLaw", "put", "(Lcom/example/quayside/quayside/Row;[ZIZII)I"⟩ : MethodName)) hown (mvT hZ (hw _ (List.mem_of_getElem? (i := 22) rfl))) (mvT hZ (hw _ (List.mem_of_getElem? (i := 23) rfl))) (mvT hZ (hw _ (List.mem_of_getElem? (i := 20) rfl))) (mvT hZ (hw _ (List.mem_of_getElem? (i := 24) rfl))) (by decide) (backOf (W := 0) (rm4s l Z a0 hw [] b2111 b2108 (0 + 1) (own_bit p1 (1 : Int32)) p2 (1 : Int32) 4 (own_set (fun _ => (0 : Int32)) 0 (own_bit p1 (0 : Int32))) T2129.heap n0 z2131 p2129_0 p2129_1 gx2108 (own_bit01 p1 (1 : Int32)) (by omega) (by omega)) hZ (hw _ (List.mem_of_getElem? (i := 24) rfl)) (hw _ (List.mem_of_getElem? (i := 20) rfl)) (by decide) (by decide)) (g := (mkF m 94 #[.val (.int p0), .val (.int p1), .val (.int p2), .val (.int p3), .val (.int (Int32.ofNat n1)), .val (.int v2105), .val (.int (Int32.ofNat n2)), .val (.ref b2108), .val (.ref b2111), .val (.int (Int32.ofNat (0 + 1))), .unset, .unset] [(.int (1 : Int32)), (.int p2), (.int (own_bit p1 (1 : Int32))), (.int (Int32.ofNat (0 + 1))), (.ref b2108), (.ref b2111)])) rfl (by rw [hml]; rfl) (argsL := [(.ref b2111), (.ref b2108), (.int (Int32.ofNat (0 + 1))), (.int (own_bit p1 (1 : Int32))), (.int p2), (.int (1 : Int32))]) (rest := []) (lenOf pd_9 rfl) rfl (by show 2 * 0 + _ ≤ _; exact Nat.le_of_eq rfl) (own_hb hby at_94) (fun _ _ => ⟨rfl, hh2133, (by decide : 7 + 2 ≤ _), (by decide : 31 + 8 ≤ _)⟩)
      dsimp only [Pt.U, Pt.locs, Pt.cells, Pt.slots] at X2134 l2134 y2134 z2134 st2134 hQ2134
      subst l2134 y2134 z2134
      obtain ⟨rfl, N2134q, K2134, p2134_0, p2134_1⟩ := hQ2134
      have N2134 := Fr.app N2133 N2134q
      refine own_Go.of (S' := (T2134.setTop (mkF m 97 #[.val (.int p0), .val (.int p1), .val (.int p2), .val (.int p3), .val (.int (Int32.ofNat n1)), .val (.int v2105), .val (.int (Int32.ofNat n2)), .val (.ref b2108), .val (.ref b2111), .val (.int (Int32.ofNat (0 + 1))), .unset, .unset] [(.int (Int32.ofNat ((0 + 1) + 1)))]))) (fun t kt => st2134 t kt) ?_
      have f2135 : own_Lt T2134.heap b2108 := f2130.le K2134
      have z2136 : n0 ≤ T2134.heap.size := Nat.le_trans z2131 K2134
      refine own_Go.of (S' := (T2134.setTop (mkF m 101 #[.val (.int p0), .val (.int p1), .val (.int p2), .val (.int p3), .val (.int (Int32.ofNat n1)), .val (.int v2105), .val (.int (Int32.ofNat n2)), .val (.ref b2108), .val (.ref b2111), .val (.int (Int32.ofNat ((0 + 1) + 1))), .unset, .unset] [(.int v2105)]))) (fun t kt => ?_) ?_
      · show Steps p.tables e below (T2134.setTop (mkF m 97 #[.val (.int p0), .val (.int p1), .val (.int p2), .val (.int p3), .val (.int (Int32.ofNat n1)), .val (.int v2105), .val (.int (Int32.ofNat n2)), .val (.ref b2108), .val (.ref b2111), .val (.int (Int32.ofNat (0 + 1))), .unset, .unset] [(.int (Int32.ofNat ((0 + 1) + 1)))])) _
        refine XS.istore X2134.here hx rfl (own_hb hby at_97) rfl (l' := #[.val (.int p0), .val (.int p1), .val (.int p2), .val (.int p3), .val (.int (Int32.ofNat n1)), .val (.int v2105), .val (.int (Int32.ofNat n2)), .val (.ref b2108), .val (.ref b2111), .val (.int (Int32.ofNat ((0 + 1) + 1))), .unset, .unset]) rfl ?_
        show Steps p.tables e below (T2134.setTop (mkF m 99 #[.val (.int p0), .val (.int p1), .val (.int p2), .val (.int p3), .val (.int (Int32.ofNat n1)), .val (.int v2105), .val (.int (Int32.ofNat n2)), .val (.ref b2108), .val (.ref b2111), .val (.int (Int32.ofNat ((0 + 1) + 1))), .unset, .unset] [])) _
        refine XS.iload X2134.here hx rfl (own_hb hby at_99) rfl ?_
        exact kt
      by_cases hc101_2137 : v2105 = (0 : Int32)
      · skip
        refine own_Go.of (S' := (T2134.setTop (mkF m 112 #[.val (.int p0), .val (.int p1), .val (.int p2), .val (.int p3), .val (.int (Int32.ofNat n1)), .val (.int v2105), .val (.int (Int32.ofNat n2)), .val (.ref b2108), .val (.ref b2111), .val (.int (Int32.ofNat ((0 + 1) + 1))), .unset, .unset] []))) (fun t kt => ?_) ?_
        · show Steps p.tables e below (T2134.setTop (mkF m 101 #[.val (.int p0), .val (.int p1), .val (.int p2), .val (.int p3), .val (.int (Int32.ofNat n1)), .val (.int v2105), .val (.int (Int32.ofNat n2)), .val (.ref b2108), .val (.ref b2111), .val (.int (Int32.ofNat ((0 + 1) + 1))), .unset, .unset] [(.int v2105)])) _
          refine XS.ifYes X2134.here hx rfl (pc0 := 101) (pc' := 112) rfl (own_hb hby at_101) rfl ((if0 _ _).trans (teq hc101_2137).1) (by decide) (by decide) ?_
          exact kt
        exact seg112 hw hx hZ hby hml hret hlk hown hnm p0 p1 p2 p3 h0 n0 b2108 b2111 ((0 + 1) + 1) (own_set (own_set (fun _ => (0 : Int32)) 0 (own_bit p1 (0 : Int32))) (0 + 1) (own_bit p1 (1 : Int32))) (Int32.ofNat n1) v2105 n2 (own_mono X2134 (by decide) (by decide)) rfl N2134 z2136 p2134_0 p2134_1 gx2108 (by omega) hn25
      · skip
        refine own_Go.of (S' := (T2134.setTop (mkF m 106 #[.val (.int p0), .val (.int p1), .val (.int p2), .val (.int p3), .val (.int (Int32.ofNat n1)), .val (.int v2105), .val (.int (Int32.ofNat n2)), .val (.ref b2108), .val (.ref b2111), .val (.int (Int32.ofNat ((0 + 1) + 1))), .unset, .unset] [(.ref b2111)]))) (fun t kt => ?_) ?_
        · show Steps p.tables e below (T2134.setTop (mkF m 101 #[.val (.int p0), .val (.int p1), .val (.int p2), .val (.int p3), .val (.int (Int32.ofNat n1)), .val (.int v2105), .val (.int (Int32.ofNat n2)), .val (.ref b2108), .val (.ref b2111), .val (.int (Int32.ofNat ((0 + 1) + 1))), .unset, .unset] [(.int v2105)])) _
          refine XS.ifNo X2134.here hx rfl (own_hb hby at_101) rfl ((if0 _ _).trans (feq hc101_2137).1) ?_
          show Steps p.tables e below (T2134.setTop (mkF m 104 #[.val (.int p0), .val (.int p1), .val (.int p2), .val (.int p3), .val (.int (Int32.ofNat n1)), .val (.int v2105), .val (.int (Int32.ofNat n2)), .val (.ref b2108), .val (.ref b2111), .val (.int (Int32.ofNat ((0 + 1) + 1))), .unset, .unset] [])) _
          refine XS.aload X2134.here hx rfl (own_hb hby at_104) rfl rfl ?_
          exact kt
        have hLy : own_Lt T2134.heap b2108 := p2134_1.lt
        obtain ⟨cq2138, kq2138, q2138a, q2138b, q2138c⟩ := isOf hZ rfl (p2134_0).exa
        obtain ⟨_, _, ⟨T2138, L2138, k2138, n2138⟩, -, X2138, ⟨Lc2138, hQ2138, l2138, y2138, z2138⟩, st2138⟩ := X2134.virtualBack hx (y := (⟨"com/example/quayside/quayside/Row", "clear", "()V"⟩ : MethodName)) (z := (⟨"com/example/quayside/quayside/Row", "clear", "()V"⟩ : MethodName)) hown (mvT hZ (hw _ (List.mem_of_getElem? (i := 53) rfl))) (mvT hZ (hw _ (List.mem_of_getElem? (i := 54) rfl))) (notFace_of_selects (args := #[]) (mvT hZ (hw _ (List.mem_of_getElem? (i := 56) rfl)))) (mvT hZ (hw _ (List.mem_of_getElem? (i := 56) rfl))) (mvT hZ (hw _ (List.mem_of_getElem? (i := 55) rfl))) (by decide) (backOf (W := 0) (rm9 l Z a0 hw [] b2108 b2111 ((0 + 1) + 1) 4 (own_set (own_set (fun _ => (0 : Int32)) 0 (own_bit p1 (0 : Int32))) (0 + 1) (own_bit p1 (1 : Int32))) T2134.heap n0 z2136 p2134_0 hLy) hZ (hw _ (List.mem_of_getElem? (i := 57) rfl)) (hw _ (List.mem_of_getElem? (i := 3) rfl)) (by decide) (by decide)) q2138a q2138c (g := (mkF m 106 #[.val (.int p0), .val (.int p1), .val (.int p2), .val (.int p3), .val (.int (Int32.ofNat n1)), .val (.int v2105), .val (.int (Int32.ofNat n2)), .val (.ref b2108), .val (.ref b2111), .val (.int (Int32.ofNat ((0 + 1) + 1))), .unset, .unset] [(.ref b2111)])) rfl (by rw [hml]; rfl) (Steps.refl _) (argsL := []) (rest := []) (lenOf pd_5 rfl) rfl (by show 2 * 0 + _ ≤ _; exact Nat.le_of_eq rfl) (own_hb hby at_106) (fun _ _ => ⟨rfl, rfl, (by decide : 9 + 0 ≤ _), (by decide : 39 + 0 ≤ _)⟩)
        dsimp only [Pt.U, Pt.locs, Pt.cells, Pt.slots] at X2138 l2138 y2138 z2138 st2138 hQ2138
        subst l2138 y2138 z2138
        obtain ⟨rfl, N2138q, K2138, p2138_0⟩ := hQ2138
        have N2138 := Fr.app N2134 N2138q
        refine own_Go.of (S' := (T2138.setTop (mkF m 109 #[.val (.int p0), .val (.int p1), .val (.int p2), .val (.int p3), .val (.int (Int32.ofNat n1)), .val (.int v2105), .val (.int (Int32.ofNat n2)), .val (.ref b2108), .val (.ref b2111), .val (.int (Int32.ofNat ((0 + 1) + 1))), .unset, .unset] []))) (fun t kt => st2138.trans kt) ?_
        have f2139 : own_Lt T2138.heap b2108 := hLy.kx K2138
        have f2140 : own_Ar Z T2138.heap b2108 .boolean 7 (own_I (own_set (own_set (fun _ => (0 : Int32)) 0 (own_bit p1 (0 : Int32))) (0 + 1) (own_bit p1 (1 : Int32)))) := p2134_1.kx K2138
        have z2141 : n0 ≤ T2138.heap.size := Nat.le_trans z2136 K2138.1
        refine own_Go.of (S' := (T2138.setTop (mkF m 112 #[.val (.int p0), .val (.int p1), .val (.int p2), .val (.int p3), .val (.int (Int32.ofNat n1)), .val (.int v2105), .val (.int (Int32.ofNat n2)), .val (.ref b2108), .val (.ref b2111), .val (.int (0 : Int32)), .unset, .unset] []))) (fun t kt => ?_) ?_
        · show Steps p.tables e below (T2138.setTop (mkF m 109 #[.val (.int p0), .val (.int p1), .val (.int p2), .val (.int p3), .val (.int (Int32.ofNat n1)), .val (.int v2105), .val (.int (Int32.ofNat n2)), .val (.ref b2108), .val (.ref b2111), .val (.int (Int32.ofNat ((0 + 1) + 1))), .unset, .unset] [])) _
          refine XS.iconst X2138.here hx rfl (own_hb hby at_109) ?_
          show Steps p.tables e below (T2138.setTop (mkF m 110 #[.val (.int p0), .val (.int p1), .val (.int p2), .val (.int p3), .val (.int (Int32.ofNat n1)), .val (.int v2105), .val (.int (Int32.ofNat n2)), .val (.ref b2108), .val (.ref b2111), .val (.int (Int32.ofNat ((0 + 1) + 1))), .unset, .unset] [(.int (0 : Int32))])) _
          refine XS.istore X2138.here hx rfl (own_hb hby at_110) rfl (l' := #[.val (.int p0), .val (.int p1), .val (.int p2), .val (.int p3), .val (.int (Int32.ofNat n1)), .val (.int v2105), .val (.int (Int32.ofNat n2)), .val (.ref b2108), .val (.ref b2111), .val (.int (0 : Int32)), .unset, .unset]) rfl ?_
          exact kt
        exact seg112 hw hx hZ hby hml hret hlk hown hnm p0 p1 p2 p3 h0 n0 b2108 b2111 0 (own_set (own_set (fun _ => (0 : Int32)) 0 (own_bit p1 (0 : Int32))) (0 + 1) (own_bit p1 (1 : Int32))) (Int32.ofNat n1) v2105 n2 (own_mono X2138 (by decide) (by decide)) rfl N2138 z2141 p2138_0 f2140 gx2108 (by omega) hn25
    · skip
      refine own_Go.of (S' := (T2129.setTop (mkF m 101 #[.val (.int p0), .val (.int p1), .val (.int p2), .val (.int p3), .val (.int (Int32.ofNat n1)), .val (.int v2105), .val (.int (Int32.ofNat n2)), .val (.ref b2108), .val (.ref b2111), .val (.int (Int32.ofNat (0 + 1))), .unset, .unset] [(.int v2105)]))) (fun t kt => ?_) ?_
      · show Steps p.tables e below (T2129.setTop (mkF m 78 #[.val (.int p0), .val (.int p1), .val (.int p2), .val (.int p3), .val (.int (Int32.ofNat n1)), .val (.int v2105), .val (.int (Int32.ofNat n2)), .val (.ref b2108), .val (.ref b2111), .val (.int (Int32.ofNat (0 + 1))), .unset, .unset] [(.int (1 : Int32)), (.int (Int32.ofNat n1))])) _
        refine XS.icmpYes X2129.here hx rfl (pc0 := 78) (pc' := 99) rfl (own_hb hby at_78) rfl (flt (fun q => hc78_2132 ((own_ltN (by omega) (by omega)).mp q))).2.2.2 (by decide) (by decide) ?_
        show Steps p.tables e below (T2129.setTop (mkF m 99 #[.val (.int p0), .val (.int p1), .val (.int p2), .val (.int p3), .val (.int (Int32.ofNat n1)), .val (.int v2105), .val (.int (Int32.ofNat n2)), .val (.ref b2108), .val (.ref b2111), .val (.int (Int32.ofNat (0 + 1))), .unset, .unset] [])) _
        refine XS.iload X2129.here hx rfl (own_hb hby at_99) rfl ?_
        exact kt
      by_cases hc101_2142 : v2105 = (0 : Int32)
      · skip
        refine own_Go.of (S' := (T2129.setTop (mkF m 112 #[.val (.int p0), .val (.int p1), .val (.int p2), .val (.int p3), .val (.int (Int32.ofNat n1)), .val (.int v2105), .val (.int (Int32.ofNat n2)), .val (.ref b2108), .val (.ref b2111), .val (.int (Int32.ofNat (0 + 1))), .unset, .unset] []))) (fun t kt => ?_) ?_
        · show Steps p.tables e below (T2129.setTop (mkF m 101 #[.val (.int p0), .val (.int p1), .val (.int p2), .val (.int p3), .val (.int (Int32.ofNat n1)), .val (.int v2105), .val (.int (Int32.ofNat n2)), .val (.ref b2108), .val (.ref b2111), .val (.int (Int32.ofNat (0 + 1))), .unset, .unset] [(.int v2105)])) _
          refine XS.ifYes X2129.here hx rfl (pc0 := 101) (pc' := 112) rfl (own_hb hby at_101) rfl ((if0 _ _).trans (teq hc101_2142).1) (by decide) (by decide) ?_
          exact kt
        exact seg112 hw hx hZ hby hml hret hlk hown hnm p0 p1 p2 p3 h0 n0 b2108 b2111 (0 + 1) (own_set (fun _ => (0 : Int32)) 0 (own_bit p1 (0 : Int32))) (Int32.ofNat n1) v2105 n2 (own_mono X2129 (by decide) (by decide)) rfl N2129 z2131 p2129_0 p2129_1 gx2108 (by omega) hn25
      · skip
        refine own_Go.of (S' := (T2129.setTop (mkF m 106 #[.val (.int p0), .val (.int p1), .val (.int p2), .val (.int p3), .val (.int (Int32.ofNat n1)), .val (.int v2105), .val (.int (Int32.ofNat n2)), .val (.ref b2108), .val (.ref b2111), .val (.int (Int32.ofNat (0 + 1))), .unset, .unset] [(.ref b2111)]))) (fun t kt => ?_) ?_
        · show Steps p.tables e below (T2129.setTop (mkF m 101 #[.val (.int p0), .val (.int p1), .val (.int p2), .val (.int p3), .val (.int (Int32.ofNat n1)), .val (.int v2105), .val (.int (Int32.ofNat n2)), .val (.ref b2108), .val (.ref b2111), .val (.int (Int32.ofNat (0 + 1))), .unset, .unset] [(.int v2105)])) _
          refine XS.ifNo X2129.here hx rfl (own_hb hby at_101) rfl ((if0 _ _).trans (feq hc101_2142).1) ?_
          show Steps p.tables e below (T2129.setTop (mkF m 104 #[.val (.int p0), .val (.int p1), .val (.int p2), .val (.int p3), .val (.int (Int32.ofNat n1)), .val (.int v2105), .val (.int (Int32.ofNat n2)), .val (.ref b2108), .val (.ref b2111), .val (.int (Int32.ofNat (0 + 1))), .unset, .unset] [])) _
          refine XS.aload X2129.here hx rfl (own_hb hby at_104) rfl rfl ?_
          exact kt
        have hLy : own_Lt T2129.heap b2108 := p2129_1.lt
        obtain ⟨cq2143, kq2143, q2143a, q2143b, q2143c⟩ := isOf hZ rfl (p2129_0).exa
        obtain ⟨_, _, ⟨T2143, L2143, k2143, n2143⟩, -, X2143, ⟨Lc2143, hQ2143, l2143, y2143, z2143⟩, st2143⟩ := X2129.virtualBack hx (y := (⟨"com/example/quayside/quayside/Row", "clear", "()V"⟩ : MethodName)) (z := (⟨"com/example/quayside/quayside/Row", "clear", "()V"⟩ : MethodName)) hown (mvT hZ (hw _ (List.mem_of_getElem? (i := 53) rfl))) (mvT hZ (hw _ (List.mem_of_getElem? (i := 54) rfl))) (notFace_of_selects (args := #[]) (mvT hZ (hw _ (List.mem_of_getElem? (i := 56) rfl)))) (mvT hZ (hw _ (List.mem_of_getElem? (i := 56) rfl))) (mvT hZ (hw _ (List.mem_of_getElem? (i := 55) rfl))) (by decide) (backOf (W := 0) (rm9 l Z a0 hw [] b2108 b2111 (0 + 1) 4 (own_set (fun _ => (0 : Int32)) 0 (own_bit p1 (0 : Int32))) T2129.heap n0 z2131 p2129_0 hLy) hZ (hw _ (List.mem_of_getElem? (i := 57) rfl)) (hw _ (List.mem_of_getElem? (i := 3) rfl)) (by decide) (by decide)) q2143a q2143c (g := (mkF m 106 #[.val (.int p0), .val (.int p1), .val (.int p2), .val (.int p3), .val (.int (Int32.ofNat n1)), .val (.int v2105), .val (.int (Int32.ofNat n2)), .val (.ref b2108), .val (.ref b2111), .val (.int (Int32.ofNat (0 + 1))), .unset, .unset] [(.ref b2111)])) rfl (by rw [hml]; rfl) (Steps.refl _) (argsL := []) (rest := []) (lenOf pd_5 rfl) rfl (by show 2 * 0 + _ ≤ _; exact Nat.le_of_eq rfl) (own_hb hby at_106) (fun _ _ => ⟨rfl, rfl, (by decide : 7 + 0 ≤ _), (by decide : 31 + 0 ≤ _)⟩)
        dsimp only [Pt.U, Pt.locs, Pt.cells, Pt.slots] at X2143 l2143 y2143 z2143 st2143 hQ2143
        subst l2143 y2143 z2143
        obtain ⟨rfl, N2143q, K2143, p2143_0⟩ := hQ2143
        have N2143 := Fr.app N2129 N2143q
        refine own_Go.of (S' := (T2143.setTop (mkF m 109 #[.val (.int p0), .val (.int p1), .val (.int p2), .val (.int p3), .val (.int (Int32.ofNat n1)), .val (.int v2105), .val (.int (Int32.ofNat n2)), .val (.ref b2108), .val (.ref b2111), .val (.int (Int32.ofNat (0 + 1))), .unset, .unset] []))) (fun t kt => st2143.trans kt) ?_
        have f2144 : own_Lt T2143.heap b2108 := hLy.kx K2143
        have f2145 : own_Ar Z T2143.heap b2108 .boolean 7 (own_I (own_set (fun _ => (0 : Int32)) 0 (own_bit p1 (0 : Int32)))) := p2129_1.kx K2143
        have z2146 : n0 ≤ T2143.heap.size := Nat.le_trans z2131 K2143.1
        refine own_Go.of (S' := (T2143.setTop (mkF m 112 #[.val (.int p0), .val (.int p1), .val (.int p2), .val (.int p3), .val (.int (Int32.ofNat n1)), .val (.int v2105), .val (.int (Int32.ofNat n2)), .val (.ref b2108), .val (.ref b2111), .val (.int (0 : Int32)), .unset, .unset] []))) (fun t kt => ?_) ?_
        · show Steps p.tables e below (T2143.setTop (mkF m 109 #[.val (.int p0), .val (.int p1), .val (.int p2), .val (.int p3), .val (.int (Int32.ofNat n1)), .val (.int v2105), .val (.int (Int32.ofNat n2)), .val (.ref b2108), .val (.ref b2111), .val (.int (Int32.ofNat (0 + 1))), .unset, .unset] [])) _
          refine XS.iconst X2143.here hx rfl (own_hb hby at_109) ?_
          show Steps p.tables e below (T2143.setTop (mkF m 110 #[.val (.int p0), .val (.int p1), .val (.int p2), .val (.int p3), .val (.int (Int32.ofNat n1)), .val (.int v2105), .val (.int (Int32.ofNat n2)), .val (.ref b2108), .val (.ref b2111), .val (.int (Int32.ofNat (0 + 1))), .unset, .unset] [(.int (0 : Int32))])) _
          refine XS.istore X2143.here hx rfl (own_hb hby at_110) rfl (l' := #[.val (.int p0), .val (.int p1), .val (.int p2), .val (.int p3), .val (.int (Int32.ofNat n1)), .val (.int v2105), .val (.int (Int32.ofNat n2)), .val (.ref b2108), .val (.ref b2111), .val (.int (0 : Int32)), .unset, .unset]) rfl ?_
          exact kt
        exact seg112 hw hx hZ hby hml hret hlk hown hnm p0 p1 p2 p3 h0 n0 b2108 b2111 0 (own_set (fun _ => (0 : Int32)) 0 (own_bit p1 (0 : Int32))) (Int32.ofNat n1) v2105 n2 (own_mono X2143 (by decide) (by decide)) rfl N2143 z2146 p2143_0 f2145 gx2108 (by omega) hn25
  · skip
    refine own_Go.of (S' := (T2123.setTop (mkF m 101 #[.val (.int p0), .val (.int p1), .val (.int p2), .val (.int p3), .val (.int (Int32.ofNat n1)), .val (.int v2105), .val (.int (Int32.ofNat n2)), .val (.ref b2108), .val (.ref b2111), .val (.int (0 : Int32)), .unset, .unset] [(.int v2105)]))) (fun t kt => ?_) ?_
    · show Steps p.tables e below (T2123.setTop (mkF m 54 #[.val (.int p0), .val (.int p1), .val (.int p2), .val (.int p3), .val (.int (Int32.ofNat n1)), .val (.int v2105), .val (.int (Int32.ofNat n2)), .val (.ref b2108), .val (.ref b2111), .val (.int (0 : Int32)), .unset, .unset] [(.int (Int32.ofNat n1))])) _
      refine XS.ifYes X2123.here hx rfl (pc0 := 54) (pc' := 75) rfl (own_hb hby at_54) rfl ((if0 _ _).trans (flt (fun q => hc54_2127 ((own_ltN (by omega) (by omega)).mp q))).2.2.2) (by decide) (by decide) ?_
      show Steps p.tables e below (T2123.setTop (mkF m 75 #[.val (.int p0), .val (.int p1), .val (.int p2), .val (.int p3), .val (.int (Int32.ofNat n1)), .val (.int v2105), .val (.int (Int32.ofNat n2)), .val (.ref b2108), .val (.ref b2111), .val (.int (0 : Int32)), .unset, .unset] [])) _
      refine XS.iload X2123.here hx rfl (own_hb hby at_75) rfl ?_
      show Steps p.tables e below (T2123.setTop (mkF m 77 #[.val (.int p0), .val (.int p1), .val (.int p2), .val (.int p3), .val (.int (Int32.ofNat n1)), .val (.int v2105), .val (.int (Int32.ofNat n2)), .val (.ref b2108), .val (.ref b2111), .val (.int (0 : Int32)), .unset, .unset] [(.int (Int32.ofNat n1))])) _
      refine XS.iconst X2123.here hx rfl (own_hb hby at_77) ?_
      show Steps p.tables e below (T2123.setTop (mkF m 78 #[.val (.int p0), .val (.int p1), .val (.int p2), .val (.int p3), .val (.int (Int32.ofNat n1)), .val (.int v2105), .val (.int (Int32.ofNat n2)), .val (.ref b2108), .val (.ref b2111), .val (.int (0 : Int32)), .unset, .unset] [(.int (1 : Int32)), (.int (Int32.ofNat n1))])) _
      refine XS.icmpYes X2123.here hx rfl (pc0 := 78) (pc' := 99) rfl (own_hb hby at_78) rfl (flt (fun q => by have h2 := (own_ltN (a := 1) (b := n1) (by omega) (by omega)).mp q; omega)).2.2.2 (by decide) (by decide) ?_
      show Steps p.tables e below (T2123.setTop (mkF m 99 #[.val (.int p0), .val (.int p1), .val (.int p2), .val (.int p3), .val (.int (Int32.ofNat n1)), .val (.int v2105), .val (.int (Int32.ofNat n2)), .val (.ref b2108), .val (.ref b2111), .val (.int (0 : Int32)), .unset, .unset] [])) _
      refine XS.iload X2123.here hx rfl (own_hb hby at_99) rfl ?_
      exact kt
    by_cases hc101_2147 : v2105 = (0 : Int32)
    · skip
      refine own_Go.of (S' := (T2123.setTop (mkF m 112 #[.val (.int p0), .val (.int p1), .val (.int p2), .val (.int p3), .val (.int (Int32.ofNat n1)), .val (.int v2105), .val (.int (Int32.ofNat n2)), .val (.ref b2108), .val (.ref b2111), .val (.int (0 : Int32)), .unset, .unset] []))) (fun t kt => ?_) ?_
      · show Steps p.tables e below (T2123.setTop (mkF m 101 #[.val (.int p0), .val (.int p1), .val (.int p2), .val (.int p3), .val (.int (Int32.ofNat n1)), .val (.int v2105), .val (.int (Int32.ofNat n2)), .val (.ref b2108), .val (.ref b2111), .val (.int (0 : Int32)), .unset, .unset] [(.int v2105)])) _
        refine XS.ifYes X2123.here hx rfl (pc0 := 101) (pc' := 112) rfl (own_hb hby at_101) rfl ((if0 _ _).trans (teq hc101_2147).1) (by decide) (by decide) ?_
        exact kt
      exact seg112 hw hx hZ hby hml hret hlk hown hnm p0 p1 p2 p3 h0 n0 b2108 b2111 0 (fun _ => (0 : Int32)) (Int32.ofNat n1) v2105 n2 (own_mono X2123 (by decide) (by decide)) rfl N2123 z2126 p2123_0 f2124 gx2108 (by omega) hn25
    · skip
      refine own_Go.of (S' := (T2123.setTop (mkF m 106 #[.val (.int p0), .val (.int p1), .val (.int p2), .val (.int p3), .val (.int (Int32.ofNat n1)), .val (.int v2105), .val (.int (Int32.ofNat n2)), .val (.ref b2108), .val (.ref b2111), .val (.int (0 : Int32)), .unset, .unset] [(.ref b2111)]))) (fun t kt => ?_) ?_
      · show Steps p.tables e below (T2123.setTop (mkF m 101 #[.val (.int p0), .val (.int p1), .val (.int p2), .val (.int p3), .val (.int (Int32.ofNat n1)), .val (.int v2105), .val (.int (Int32.ofNat n2)), .val (.ref b2108), .val (.ref b2111), .val (.int (0 : Int32)), .unset, .unset] [(.int v2105)])) _
        refine XS.ifNo X2123.here hx rfl (own_hb hby at_101) rfl ((if0 _ _).trans (feq hc101_2147).1) ?_
        show Steps p.tables e below (T2123.setTop (mkF m 104 #[.val (.int p0), .val (.int p1), .val (.int p2), .val (.int p3), .val (.int (Int32.ofNat n1)), .val (.int v2105), .val (.int (Int32.ofNat n2)), .val (.ref b2108), .val (.ref b2111), .val (.int (0 : Int32)), .unset, .unset] [])) _
        refine XS.aload X2123.here hx rfl (own_hb hby at_104) rfl rfl ?_
        exact kt
      have hLy : own_Lt T2123.heap b2108 := f2124.lt
      obtain ⟨cq2148, kq2148, q2148a, q2148b, q2148c⟩ := isOf hZ rfl (p2123_0).exa
      obtain ⟨_, _, ⟨T2148, L2148, k2148, n2148⟩, -, X2148, ⟨Lc2148, hQ2148, l2148, y2148, z2148⟩, st2148⟩ := X2123.virtualBack hx (y := (⟨"com/example/quayside/quayside/Row", "clear", "()V"⟩ : MethodName)) (z := (⟨"com/example/quayside/quayside/Row", "clear", "()V"⟩ : MethodName)) hown (mvT hZ (hw _ (List.mem_of_getElem? (i := 53) rfl))) (mvT hZ (hw _ (List.mem_of_getElem? (i := 54) rfl))) (notFace_of_selects (args := #[]) (mvT hZ (hw _ (List.mem_of_getElem? (i := 56) rfl)))) (mvT hZ (hw _ (List.mem_of_getElem? (i := 56) rfl))) (mvT hZ (hw _ (List.mem_of_getElem? (i := 55) rfl))) (by decide) (backOf (W := 0) (rm9 l Z a0 hw [] b2108 b2111 0 4 (fun _ => (0 : Int32)) T2123.heap n0 z2126 p2123_0 hLy) hZ (hw _ (List.mem_of_getElem? (i := 57) rfl)) (hw _ (List.mem_of_getElem? (i := 3) rfl)) (by decide) (by decide)) q2148a q2148c (g := (mkF m 106 #[.val (.int p0), .val (.int p1), .val (.int p2), .val (.int p3), .val (.int (Int32.ofNat n1)), .val (.int v2105), .val (.int (Int32.ofNat n2)), .val (.ref b2108), .val (.ref b2111), .val (.int (0 : Int32)), .unset, .unset] [(.ref b2111)])) rfl (by rw [hml]; rfl) (Steps.refl _) (argsL := []) (rest := []) (lenOf pd_5 rfl) rfl (by show 2 * 0 + _ ≤ _; exact Nat.le_of_eq rfl) (own_hb hby at_106) (fun _ _ => ⟨rfl, rfl, (by decide : 5 + 0 ≤ _), (by decide : 23 + 0 ≤ _)⟩)
      dsimp only [Pt.U, Pt.locs, Pt.cells, Pt.slots] at X2148 l2148 y2148 z2148 st2148 hQ2148
      subst l2148 y2148 z2148
      obtain ⟨rfl, N2148q, K2148, p2148_0⟩ := hQ2148
      have N2148 := Fr.app N2123 N2148q
      refine own_Go.of (S' := (T2148.setTop (mkF m 109 #[.val (.int p0), .val (.int p1), .val (.int p2), .val (.int p3), .val (.int (Int32.ofNat n1)), .val (.int v2105), .val (.int (Int32.ofNat n2)), .val (.ref b2108), .val (.ref b2111), .val (.int (0 : Int32)), .unset, .unset] []))) (fun t kt => st2148.trans kt) ?_
      have f2149 : own_Ar Z T2148.heap b2108 .boolean 7 (own_I (fun _ => (0 : Int32))) := f2124.kx K2148
      have f2150 : own_Lt T2148.heap b2108 := hLy.kx K2148
      have z2151 : n0 ≤ T2148.heap.size := Nat.le_trans z2126 K2148.1
      refine own_Go.of (S' := (T2148.setTop (mkF m 112 #[.val (.int p0), .val (.int p1), .val (.int p2), .val (.int p3), .val (.int (Int32.ofNat n1)), .val (.int v2105), .val (.int (Int32.ofNat n2)), .val (.ref b2108), .val (.ref b2111), .val (.int (0 : Int32)), .unset, .unset] []))) (fun t kt => ?_) ?_
      · show Steps p.tables e below (T2148.setTop (mkF m 109 #[.val (.int p0), .val (.int p1), .val (.int p2), .val (.int p3), .val (.int (Int32.ofNat n1)), .val (.int v2105), .val (.int (Int32.ofNat n2)), .val (.ref b2108), .val (.ref b2111), .val (.int (0 : Int32)), .unset, .unset] [])) _
        refine XS.iconst X2148.here hx rfl (own_hb hby at_109) ?_
        show Steps p.tables e below (T2148.setTop (mkF m 110 #[.val (.int p0), .val (.int p1), .val (.int p2), .val (.int p3), .val (.int (Int32.ofNat n1)), .val (.int v2105), .val (.int (Int32.ofNat n2)), .val (.ref b2108), .val (.ref b2111), .val (.int (0 : Int32)), .unset, .unset] [(.int (0 : Int32))])) _
        refine XS.istore X2148.here hx rfl (own_hb hby at_110) rfl (l' := #[.val (.int p0), .val (.int p1), .val (.int p2), .val (.int p3), .val (.int (Int32.ofNat n1)), .val (.int v2105), .val (.int (Int32.ofNat n2)), .val (.ref b2108), .val (.ref b2111), .val (.int (0 : Int32)), .unset, .unset]) rfl ?_
        exact kt
      exact seg112 hw hx hZ hby hml hret hlk hown hnm p0 p1 p2 p3 h0 n0 b2108 b2111 0 (fun _ => (0 : Int32)) (Int32.ofNat n1) v2105 n2 (own_mono X2148 (by decide) (by decide)) rfl N2148 z2151 p2148_0 f2149 gx2108 (by omega) hn25
set_option maxRecDepth 65536 in
set_option maxHeartbeats 40000000 in
theorem comes_1 {Post : Tables → Env → Array Value → State → Outcome → State → Prop} (hpost : ∀ tb e args s v u, (limb_1_1.after args s (.returned v) u = true ∧ limb_1_2.after args s (.returned v) u = true ∧ True) → FrameEnd s (.returned v) u (Jvm.fieldLocs frame_1_writes args s ++ Jvm.arrayLocs frame_1_arrays args s ++ Jvm.staticLocs frame_1_statics s) 32 192 → Post tb e args s (.returned v) u) :
    ArmFor flags0 classFile x code maxLocals ret World_1 tables_1 room_1 Calls_1 rest_1 Pre_1 Post := by
  intro l hfl _ _ p e ha hc hk s m args below hf hA hF happ hP
  obtain ⟨hcalls, hrest, hpre⟩ := hP
  obtain ⟨-, -, -, hnamed, -, -, -, hat⟩ := (Spec.applies_iff hf).mp happ
  obtain ⟨hg, hn⟩ := and_e (Cond.before_iff.mp (show (Jvm.Cond.and given_1 narrow_1).before args s = true from hpre))
  obtain ⟨gc, gr0⟩ := and_e hg
  obtain ⟨ga0, gr1⟩ := and_e gr0
  obtain ⟨ga1, gr2⟩ := and_e gr1
  obtain ⟨ga2, gr3⟩ := and_e gr2
  obtain ⟨w0, w1, w2, w3, rfl⟩ : ∃ w0 w1 w2 w3 : Value, args = #[w0, w1, w2, w3] := by
    have hs : args.size = 4 := by simpa [Cond.value, given_1] using gc
    obtain ⟨L⟩ := args
    match L, hs with
    | [w0, w1, w2, w3], _ => exact ⟨w0, w1, w2, w3, rfl⟩
  have hw := fun d (hd : d ∈ tables_1) => atoms_spec (ws := Jvm.Cond.code x code maxLocals ret :: tables_1) hat d (List.mem_cons_of_mem _ hd)
  have hfit : Fit s := fun {y c} hc i hi => by
    obtain ⟨ha, rfl⟩ := Array.getElem?_eq_some_iff.mp hc
    have q := List.all_eq_true.mp ((Array.all_eq_true_iff_forall_mem.mp hF) _ (Array.getElem_mem ha)) i (List.mem_range.mpr hi)
    simpa [Array.getElem?_eq_getElem hi] using q
  obtain ⟨i0, ei0⟩ := is_v ga0
  obtain rfl : w0 = (.int i0) := Option.some.inj ei0
  obtain ⟨i1, ei1⟩ := is_v ga1
  obtain rfl : w1 = (.int i1) := Option.some.inj ei1
  obtain ⟨i2, ei2⟩ := is_v ga2
  obtain rfl : w2 = (.int i2) := Option.some.inj ei2
  obtain ⟨i3, ei3⟩ := is_v gr3
  obtain rfl : w3 = (.int i3) := Option.some.inj ei3
  obtain ⟨n, o, h1, h2, h3, _, L, rfl, ⟨rfl, N⟩, hq⟩ := rm0 l s _ hw tables_1 i0 i1 i2 i3 s.heap s.heap.size (Nat.le_refl _)  p e ha hc hk s m _ below hf ((Spec.applies_iff_loose hf).mp happ).1 ⟨rfl, State.Warmed39.refl s, rfl⟩ trivial
  refine ⟨n, _, h1, h2, h3, hpost _ _ _ _ _ _ ⟨Cond.after_iff.mpr rfl, Cond.after_iff.mpr (eq_i res_at (Term.int_eval (1)) rfl), trivial⟩ ⟨hq.1, hq.2.1, (hq.2.2.sift fun y hy => Or.inr (N y hy)).mono (by decide) (by decide)⟩⟩
theorem main_1_1 : Claimed_1_1 := comes_1 fun _ _ _ _ _ _ h hF => ⟨h.1, hF⟩
theorem main_1_2 : Claimed_1_2 := comes_1 fun _ _ _ _ _ _ h hF => ⟨h.2.1, hF⟩
end Jvm.Pilot.@@N@@
namespace Jvm.Pilot.@@N@@
open Jvm Jvm.ClassFile Sem Op Lib Jvm.Free Jvm.Stand Jvm.Pilot.@@N@@.Jvm.D
/-! MADE BY PROGRAM (witnessworld.py) out of the Statement's table words and the real class files: 14 classes; the members and pool entries that the words name. The judged class is class 1, her method 3. -/
namespace start1
open Jvm.ClassFile
def u (s : String) : CpInfo := .utf8 (stringToUtf16 s)
/-- a pool by its gaps: so many unusable entries, then the entry; so many at the end -/
def gap : Nat → List CpInfo → List CpInfo
  | 0, r => r
  | n + 1, r => .unusable :: gap n r
def poolList (es : List (Nat × CpInfo)) (last : Nat) : List CpInfo := es.foldr (fun e r => gap e.1 (e.2 :: r)) (gap last [])
def pool (es : List (Nat × CpInfo)) (last : Nat) : Array CpInfo := ⟨poolList es last⟩
def fileOf (pool : Array CpInfo) (this : Nat) (attrs : Array Attribute := #[]) (ms : Array MethodInfo := #[]) (fl : Nat := 33) (sup : Nat := 0) (ifs : Array Nat := #[]) (fds : Array FieldInfo := #[]) : ClassFile where
  minorVersion := 0
  majorVersion := 65
  constantPool := pool
  accessFlags := fl
  thisClass := this
  superClass := sup
  interfaces := ifs
  fields := fds
  methods := ms
  attributes := attrs
def plain (name : String) (sup : Option ClassId) : Class where
  name := name
  kind := .ordinary
  loader := none
  accessFlags := 33
  super := sup
  interfaces := #[]
  cf := none
  fields := #[]
  methods := #[]
  instanceTypes := #[]
  staticTypes := #[]
  resolved := #[]
  callSites := []
  init := .initialized
  statics := none
  mirror := none

def pool0 : Array CpInfo := pool [(5, u "<init>"), (0, u "()V"), (1, .class_ 10), (1, u "java/lang/Object")] 113

def k0c0 : Code := { maxStack := 0, maxLocals := 1, code := object_method_1_code, exceptionTable := #[], attributes := #[] }
def k0m0 : Method := { name := "<init>", desc := "()V", sig := { parameters := [], returnType := none }, accessFlags := 1, code := some k0c0 }
/-- java/lang/Object -/
def k0 : Class := { plain "java/lang/Object" none with
  accessFlags := 33
  interfaces := #[]
  cf := some (fileOf pool0 8 #[] #[{ accessFlags := 1, nameIndex := 5, descriptorIndex := 6, attributes := #[] }] 33 0 #[] #[])
  fields := #[]
  methods := #[k0m0]
  instanceTypes := #[]
  staticTypes := #[]
  resolved := Array.replicate 124 none
  statics := none }

def pool1 : Array CpInfo := pool [(2, .class_ 4), (0, .nameAndType 5 6), (0, u "java/lang/Object"), (0, u "<init>"), (0, u "()V"), (0, .methodref 8 9), (0, .class_ 10), (0, .nameAndType 11 6), (0, u "com/example/quayside/quayside/Row"), (0, u "addNull"), (0, .methodref 8 13), (0, .nameAndType 14 15), (0, u "add"), (0, u "(II)V"), (0, .methodref 8 3), (0, .methodref 18 19), (0, .class_ 20), (0, .nameAndType 21 22), (0, u "com/example/quayside/quayside/RowIsNullPinLaw"), (0, u "bit"), (0, u "(II)Z"), (0, .methodref 18 24), (0, .nameAndType 25 26), (0, u "put"), (0, u "(Lcom/example/quayside/quayside/Row;[ZIZII)I"), (0, .methodref 8 28), (0, .nameAndType 29 6), (0, u "clear"), (0, .methodref 8 31), (0, .nameAndType 32 33), (0, u "size"), (0, u "()I"), (0, .integer 2147483647), (0, .methodref 8 36), (0, .nameAndType 37 38), (0, u "isNull"), (0, u "(I)Z"), (3, u "law"), (0, u "(IIII)Z")] 4

def k1m0 : Method := { name := "<init>", desc := "()V", sig := { parameters := [], returnType := none }, accessFlags := 1, code := none }
def k1c1 : Code := { maxStack := 2, maxLocals := 2, code := method_2_code, exceptionTable := #[], attributes := #[] }
def k1m1 : Method := { name := "bit", desc := "(II)Z", sig := { parameters := [.int, .int], returnType := some .boolean }, accessFlags := 10, code := some k1c1 }
def k1c2 : Code := { maxStack := 4, maxLocals := 8, code := method_3_code, exceptionTable := #[], attributes := #[] }
def k1m2 : Method := { name := "put", desc := "(Lcom/example/quayside/quayside/Row;[ZIZII)I", sig := { parameters := [(.object "com/example/quayside/quayside/Row"), (.array .boolean), .int, .boolean, .int, .int], returnType := some .int }, accessFlags := 10, code := some k1c2 }
def k1c3 : Code := { maxStack := 6, maxLocals := 12, code := code, exceptionTable := #[], attributes := #[] }
def k1m3 : Method := { name := "law", desc := "(IIII)Z", sig := { parameters := [.int, .int, .int, .int], returnType := some .boolean }, accessFlags := 9, code := some k1c3 }
/-- com/example/quayside/quayside/RowIsNullPinLaw -/
def k1 : Class := { plain "com/example/quayside/quayside/RowIsNullPinLaw" (some 0) with
  accessFlags := 49
  interfaces := #[]
  cf := some (fileOf pool1 18 #[] #[{ accessFlags := 1, nameIndex := 5, descriptorIndex := 6, attributes := #[] }, { accessFlags := 10, nameIndex := 21, descriptorIndex := 22, attributes := #[] }, { accessFlags := 10, nameIndex := 25, descriptorIndex := 26, attributes := #[] }, { accessFlags := 9, nameIndex := 42, descriptorIndex := 43, attributes := #[] }] 49 2 #[] #[])
  fields := #[]
  methods := #[k1m0, k1m1, k1m2, k1m3]
  instanceTypes := #[]
  staticTypes := #[]
  resolved := Array.replicate 48 none
  statics := none }

def pool2 : Array CpInfo := pool [(1, .methodref 2 3), (0, .class_ 4), (0, .nameAndType 5 6), (0, u "java/lang/Object"), (0, u "<init>"), (0, u "()V"), (0, .fieldref 8 9), (0, .class_ 10), (0, .nameAndType 11 12), (0, u "com/example/quayside/quayside/Row"), (0, u "bytes"), (0, u "[B"), (0, .fieldref 8 14), (0, .nameAndType 15 16), (0, u "starts"), (0, u "[I"), (0, .fieldref 8 18), (0, .nameAndType 19 16), (0, u "ends"), (0, .fieldref 8 21), (0, .nameAndType 22 23), (0, u "nullCount"), (0, u "I"), (0, .fieldref 8 25), (0, .nameAndType 26 27), (0, u "nulls"), (0, u "[Z"), (0, .methodref 29 30), (0, .class_ 31), (0, .nameAndType 32 33), (0, u "java/util/Arrays"), (0, u "fill"), (0, u "([ZZ)V"), (0, .fieldref 8 35), (0, .nameAndType 36 23), (0, u "size"), (0, .fieldref 8 38), (0, .nameAndType 39 23), (0, u "reach"), (0, .fieldref 8 41), (0, .nameAndType 42 43), (0, u "text"), (0, u "Z"), (9, .methodref 29 54), (0, .nameAndType 55 56), (0, u "copyOf"), (0, u "([II)[I"), (0, .methodref 58 59), (0, .class_ 60), (0, .nameAndType 61 62), (0, u "java/lang/Math"), (0, u "max"), (0, u "(II)I"), (0, .methodref 8 64), (0, .nameAndType 65 66), (0, u "add"), (0, u "(II)V"), (0, .methodref 29 68), (0, .nameAndType 55 69), (0, u "([ZI)[Z"), (11, u "clear"), (1, u "addNull"), (4, u "()I"), (3, u "isNull"), (0, u "(I)Z")] 21

def k2c0 : Code := { maxStack := 2, maxLocals := 1, code := prog_62_method_1_code, exceptionTable := #[], attributes := #[] }
def k2m0 : Method := { name := "<init>", desc := "()V", sig := { parameters := [], returnType := none }, accessFlags := 1, code := some k2c0 }
def k2c1 : Code := { maxStack := 2, maxLocals := 1, code := prog_62_method_2_code, exceptionTable := #[], attributes := #[] }
def k2m1 : Method := { name := "clear", desc := "()V", sig := { parameters := [], returnType := none }, accessFlags := 1, code := some k2c1 }
def k2c2 : Code := { maxStack := 4, maxLocals := 3, code := prog_62_method_3_code, exceptionTable := #[], attributes := #[] }
def k2m2 : Method := { name := "add", desc := "(II)V", sig := { parameters := [.int, .int], returnType := none }, accessFlags := 1, code := some k2c2 }
def k2c3 : Code := { maxStack := 3, maxLocals := 1, code := prog_62_method_4_code, exceptionTable := #[], attributes := #[] }
def k2m3 : Method := { name := "addNull", desc := "()V", sig := { parameters := [], returnType := none }, accessFlags := 1, code := some k2c3 }
def k2c4 : Code := { maxStack := 1, maxLocals := 1, code := prog_62_method_9_code, exceptionTable := #[], attributes := #[] }
def k2m4 : Method := { name := "size", desc := "()I", sig := { parameters := [], returnType := some .int }, accessFlags := 1, code := some k2c4 }
def k2c5 : Code := { maxStack := 2, maxLocals := 2, code := prog_62_method_10_code, exceptionTable := #[], attributes := #[] }
def k2m5 : Method := { name := "isNull", desc := "(I)Z", sig := { parameters := [.int], returnType := some .boolean }, accessFlags := 1, code := some k2c5 }
/-- com/example/quayside/quayside/Row -/
def k2 : Class := { plain "com/example/quayside/quayside/Row" (some 0) with
  accessFlags := 49
  interfaces := #[]
  cf := some (fileOf pool2 8 #[] #[{ accessFlags := 1, nameIndex := 5, descriptorIndex := 6, attributes := #[] }, { accessFlags := 1, nameIndex := 81, descriptorIndex := 6, attributes := #[] }, { accessFlags := 1, nameIndex := 65, descriptorIndex := 66, attributes := #[] }, { accessFlags := 1, nameIndex := 83, descriptorIndex := 6, attributes := #[] }, { accessFlags := 1, nameIndex := 36, descriptorIndex := 88, attributes := #[] }, { accessFlags := 1, nameIndex := 92, descriptorIndex := 93, attributes := #[] }] 49 2 #[] #[{ accessFlags := 2, nameIndex := 11, descriptorIndex := 12, attributes := #[] }, { accessFlags := 2, nameIndex := 15, descriptorIndex := 16, attributes := #[] }, { accessFlags := 2, nameIndex := 19, descriptorIndex := 16, attributes := #[] }, { accessFlags := 2, nameIndex := 36, descriptorIndex := 23, attributes := #[] }, { accessFlags := 2, nameIndex := 39, descriptorIndex := 23, attributes := #[] }, { accessFlags := 2, nameIndex := 26, descriptorIndex := 27, attributes := #[] }, { accessFlags := 2, nameIndex := 22, descriptorIndex := 23, attributes := #[] }, { accessFlags := 2, nameIndex := 42, descriptorIndex := 43, attributes := #[] }])
  fields := #[{ name := "bytes", type := (.array .byte), accessFlags := 2, slot := 0, constantValue := 0 }, { name := "starts", type := (.array .int), accessFlags := 2, slot := 1, constantValue := 0 }, { name := "ends", type := (.array .int), accessFlags := 2, slot := 2, constantValue := 0 }, { name := "size", type := .int, accessFlags := 2, slot := 3, constantValue := 0 }, { name := "reach", type := .int, accessFlags := 2, slot := 4, constantValue := 0 }, { name := "nulls", type := (.array .boolean), accessFlags := 2, slot := 5, constantValue := 0 }, { name := "nullCount", type := .int, accessFlags := 2, slot := 6, constantValue := 0 }, { name := "text", type := .boolean, accessFlags := 2, slot := 7, constantValue := 0 }]
  methods := #[k2m0, k2m1, k2m2, k2m3, k2m4, k2m5]
  instanceTypes := #[(.array .byte), (.array .int), (.array .int), .int, .int, (.array .boolean), .int, .boolean]
  staticTypes := #[]
  resolved := Array.replicate 115 none
  statics := none }

def pool3 : Array CpInfo := pool [(1, .class_ 2), (0, u "java/lang/Math"), (1, .class_ 6), (1, u "java/lang/Object"), (0, u "<init>"), (0, u "()V"), (89, .class_ 100), (1, u "java/lang/Math$RandomNumberGeneratorHolder"), (71, u "negativeZeroFloatBits"), (0, u "J"), (2, u "negativeZeroDoubleBits"), (21, u "max"), (2, u "min"), (43, u "$assertionsDisabled"), (0, u "Z"), (88, u "(II)I"), (2, u "twoToTheDoubleScaleDown"), (0, u "D"), (4, u "twoToTheDoubleScaleUp"), (9, u "E"), (3, u "PI"), (2, u "TAU"), (2, u "DEGREES_TO_RADIANS"), (0, u "RADIANS_TO_DEGREES")] 94

def k3m0 : Method := { name := "<init>", desc := "()V", sig := { parameters := [], returnType := none }, accessFlags := 2, code := none }
def k3c1 : Code := { maxStack := 2, maxLocals := 2, code := jdk_29_method_65_code, exceptionTable := #[], attributes := #[] }
def k3m1 : Method := { name := "max", desc := "(II)I", sig := { parameters := [.int, .int], returnType := some .int }, accessFlags := 9, code := some k3c1 }
def k3c2 : Code := { maxStack := 2, maxLocals := 2, code := jdk_29_method_69_code, exceptionTable := #[], attributes := #[] }
def k3m2 : Method := { name := "min", desc := "(II)I", sig := { parameters := [.int, .int], returnType := some .int }, accessFlags := 9, code := some k3c2 }
/-- java/lang/Math -/
def k3 : Class := { plain "java/lang/Math" (some 0) with
  accessFlags := 49
  interfaces := #[]
  cf := some (fileOf pool3 1 #[.nestMembers #[98]] #[{ accessFlags := 2, nameIndex := 7, descriptorIndex := 8, attributes := #[] }, { accessFlags := 9, nameIndex := 198, descriptorIndex := 335, attributes := #[] }, { accessFlags := 9, nameIndex := 201, descriptorIndex := 335, attributes := #[] }] 49 4 #[] #[{ accessFlags := 25, nameIndex := 354, descriptorIndex := 339, attributes := #[] }, { accessFlags := 25, nameIndex := 358, descriptorIndex := 339, attributes := #[] }, { accessFlags := 25, nameIndex := 361, descriptorIndex := 339, attributes := #[] }, { accessFlags := 26, nameIndex := 364, descriptorIndex := 339, attributes := #[] }, { accessFlags := 26, nameIndex := 365, descriptorIndex := 339, attributes := #[] }, { accessFlags := 26, nameIndex := 172, descriptorIndex := 173, attributes := #[] }, { accessFlags := 26, nameIndex := 176, descriptorIndex := 173, attributes := #[] }, { accessFlags := 8, nameIndex := 344, descriptorIndex := 339, attributes := #[] }, { accessFlags := 8, nameIndex := 338, descriptorIndex := 339, attributes := #[] }, { accessFlags := 4120, nameIndex := 245, descriptorIndex := 246, attributes := #[] }])
  fields := #[{ name := "E", type := .double, accessFlags := 25, slot := 0, constantValue := 0 }, { name := "PI", type := .double, accessFlags := 25, slot := 1, constantValue := 0 }, { name := "TAU", type := .double, accessFlags := 25, slot := 2, constantValue := 0 }, { name := "DEGREES_TO_RADIANS", type := .double, accessFlags := 26, slot := 3, constantValue := 0 }, { name := "RADIANS_TO_DEGREES", type := .double, accessFlags := 26, slot := 4, constantValue := 0 }, { name := "negativeZeroFloatBits", type := .long, accessFlags := 26, slot := 5, constantValue := 0 }, { name := "negativeZeroDoubleBits", type := .long, accessFlags := 26, slot := 6, constantValue := 0 }, { name := "twoToTheDoubleScaleUp", type := .double, accessFlags := 8, slot := 7, constantValue := 0 }, { name := "twoToTheDoubleScaleDown", type := .double, accessFlags := 8, slot := 8, constantValue := 0 }, { name := "$assertionsDisabled", type := .boolean, accessFlags := 4120, slot := 9, constantValue := 0 }]
  methods := #[k3m0, k3m1, k3m2]
  instanceTypes := #[]
  staticTypes := #[.double, .double, .double, .double, .double, .long, .long, .double, .double, .boolean]
  resolved := Array.replicate 460 none
  statics := none }

def pool4 : Array CpInfo := pool [(2, .class_ 4), (1, u "java/lang/Object"), (0, u "<init>"), (0, u "()V"), (7, .class_ 16), (1, u "java/util/Arrays"), (57, .class_ 76), (1, u "java/util/Arrays$NaturalOrder"), (36, .class_ 115), (1, u "java/util/Arrays$LegacyMergeSort"), (1, u "Z"), (32, .methodref 151 152), (0, .class_ 153), (0, .nameAndType 154 155), (0, u "java/lang/System"), (0, u "arraycopy"), (0, u "(Ljava/lang/Object;ILjava/lang/Object;II)V"), (146, u "copyOf"), (1, .methodref 305 306), (0, .class_ 307), (0, .nameAndType 308 309), (0, u "java/lang/Math"), (0, u "min"), (0, u "(II)I"), (65, .class_ 376), (0, u "java/util/Arrays$ArrayList"), (68, u "$assertionsDisabled"), (269, u "MIN_ARRAY_SORT_GRAN"), (0, u "I"), (2, u "INSERTIONSORT_THRESHOLD"), (120, u "fill"), (11, u "([ZZ)V"), (18, u "([II)[I"), (4, u "([ZI)[Z"), (98, .class_ 976), (0, u "java/util/Arrays$ArrayItr")] 52

def k4m0 : Method := { name := "<init>", desc := "()V", sig := { parameters := [], returnType := none }, accessFlags := 2, code := none }
def k4c1 : Code := { maxStack := 3, maxLocals := 4, code := jdk_65_method_111_code, exceptionTable := #[], attributes := #[] }
def k4m1 : Method := { name := "fill", desc := "([ZZ)V", sig := { parameters := [(.array .boolean), .boolean], returnType := none }, accessFlags := 9, code := some k4c1 }
def k4c2 : Code := { maxStack := 6, maxLocals := 3, code := jdk_65_method_123_code, exceptionTable := #[], attributes := #[] }
def k4m2 : Method := { name := "copyOf", desc := "([II)[I", sig := { parameters := [(.array .int), .int], returnType := some (.array .int) }, accessFlags := 9, code := some k4c2 }
def k4c3 : Code := { maxStack := 6, maxLocals := 3, code := jdk_65_method_128_code, exceptionTable := #[], attributes := #[] }
def k4m3 : Method := { name := "copyOf", desc := "([ZI)[Z", sig := { parameters := [(.array .boolean), .int], returnType := some (.array .boolean) }, accessFlags := 9, code := some k4c3 }
/-- java/util/Arrays -/
def k4 : Class := { plain "java/util/Arrays" (some 0) with
  accessFlags := 49
  interfaces := #[]
  cf := some (fileOf pool4 14 #[.nestMembers #[975, 375, 113, 74]] #[{ accessFlags := 2, nameIndex := 5, descriptorIndex := 6, attributes := #[] }, { accessFlags := 9, nameIndex := 840, descriptorIndex := 852, attributes := #[] }, { accessFlags := 9, nameIndex := 302, descriptorIndex := 871, attributes := #[] }, { accessFlags := 9, nameIndex := 302, descriptorIndex := 876, attributes := #[] }] 49 2 #[] #[{ accessFlags := 26, nameIndex := 715, descriptorIndex := 716, attributes := #[] }, { accessFlags := 26, nameIndex := 719, descriptorIndex := 716, attributes := #[] }, { accessFlags := 4120, nameIndex := 445, descriptorIndex := 117, attributes := #[] }])
  fields := #[{ name := "MIN_ARRAY_SORT_GRAN", type := .int, accessFlags := 26, slot := 0, constantValue := 0 }, { name := "INSERTIONSORT_THRESHOLD", type := .int, accessFlags := 26, slot := 1, constantValue := 0 }, { name := "$assertionsDisabled", type := .boolean, accessFlags := 4120, slot := 2, constantValue := 0 }]
  methods := #[k4m0, k4m1, k4m2, k4m3]
  instanceTypes := #[]
  staticTypes := #[.int, .int, .boolean]
  resolved := Array.replicate 1029 none
  statics := none }

def pool5 : Array CpInfo := pool [(2, .class_ 4), (1, u "java/lang/Object"), (0, u "<init>"), (0, u "()V"), (1, .class_ 10), (1, u "java/lang/System"), (0, u "allowSecurityManager"), (0, u "I"), (16, u "cons"), (0, u "Ljava/io/Console;"), (77, .class_ 110), (1, u "java/lang/System$CallersHolder"), (43, u "initialErrStream"), (0, u "Ljava/io/PrintStream;"), (19, u "security"), (0, u "Ljava/lang/SecurityManager;"), (31, .class_ 209), (0, u "java/lang/System$1"), (7, u "props"), (0, u "Ljava/util/Properties;"), (2, u "lineSeparator"), (0, u "Ljava/lang/String;"), (96, .class_ 321), (1, u "java/lang/System$LoggerFinder"), (5, .class_ 328), (0, u "java/lang/System$Logger"), (67, u "err"), (2, u "out"), (91, u "notSupportedJnuEncoding"), (15, u "in"), (17, u "initialIn"), (0, u "Ljava/io/InputStream;"), (35, u "bootLayer"), (0, u "Ljava/lang/ModuleLayer;"), (99, .class_ 664), (0, u "java/lang/System$2"), (9, u "NEVER"), (2, u "MAYBE"), (49, u "arraycopy"), (0, u "(Ljava/lang/Object;ILjava/lang/Object;II)V"), (72, .class_ 802), (0, u "java/lang/System$Logger$Level")] 31

def k5m0 : Method := { name := "<init>", desc := "()V", sig := { parameters := [], returnType := none }, accessFlags := 2, code := none }
def k5m1 : Method := { name := "arraycopy", desc := "(Ljava/lang/Object;ILjava/lang/Object;II)V", sig := { parameters := [(.object "java/lang/Object"), .int, (.object "java/lang/Object"), .int, .int], returnType := none }, accessFlags := 265, code := none }
/-- java/lang/System -/
def k5 : Class := { plain "java/lang/System" (some 0) with
  accessFlags := 49
  interfaces := #[]
  cf := some (fileOf pool5 8 #[.nestMembers #[319, 327, 801, 108, 663, 208]] #[{ accessFlags := 2, nameIndex := 5, descriptorIndex := 6, attributes := #[] }, { accessFlags := 265, nameIndex := 727, descriptorIndex := 728, attributes := #[] }] 49 2 #[] #[{ accessFlags := 25, nameIndex := 507, descriptorIndex := 526, attributes := #[] }, { accessFlags := 25, nameIndex := 399, descriptorIndex := 155, attributes := #[] }, { accessFlags := 25, nameIndex := 396, descriptorIndex := 155, attributes := #[] }, { accessFlags := 10, nameIndex := 525, descriptorIndex := 526, attributes := #[] }, { accessFlags := 26, nameIndex := 674, descriptorIndex := 12, attributes := #[] }, { accessFlags := 26, nameIndex := 677, descriptorIndex := 12, attributes := #[] }, { accessFlags := 10, nameIndex := 11, descriptorIndex := 12, attributes := #[] }, { accessFlags := 74, nameIndex := 175, descriptorIndex := 176, attributes := #[] }, { accessFlags := 10, nameIndex := 491, descriptorIndex := 222, attributes := #[] }, { accessFlags := 74, nameIndex := 29, descriptorIndex := 30, attributes := #[] }, { accessFlags := 74, nameIndex := 154, descriptorIndex := 155, attributes := #[] }, { accessFlags := 10, nameIndex := 217, descriptorIndex := 218, attributes := #[] }, { accessFlags := 10, nameIndex := 221, descriptorIndex := 222, attributes := #[] }, { accessFlags := 8, nameIndex := 562, descriptorIndex := 563, attributes := #[] }])
  fields := #[{ name := "in", type := (.object "java/io/InputStream"), accessFlags := 25, slot := 0, constantValue := 0 }, { name := "out", type := (.object "java/io/PrintStream"), accessFlags := 25, slot := 1, constantValue := 0 }, { name := "err", type := (.object "java/io/PrintStream"), accessFlags := 25, slot := 2, constantValue := 0 }, { name := "initialIn", type := (.object "java/io/InputStream"), accessFlags := 10, slot := 3, constantValue := 0 }, { name := "NEVER", type := .int, accessFlags := 26, slot := 4, constantValue := 0 }, { name := "MAYBE", type := .int, accessFlags := 26, slot := 5, constantValue := 0 }, { name := "allowSecurityManager", type := .int, accessFlags := 10, slot := 6, constantValue := 0 }, { name := "security", type := (.object "java/lang/SecurityManager"), accessFlags := 74, slot := 7, constantValue := 0 }, { name := "notSupportedJnuEncoding", type := (.object "java/lang/String"), accessFlags := 10, slot := 8, constantValue := 0 }, { name := "cons", type := (.object "java/io/Console"), accessFlags := 74, slot := 9, constantValue := 0 }, { name := "initialErrStream", type := (.object "java/io/PrintStream"), accessFlags := 74, slot := 10, constantValue := 0 }, { name := "props", type := (.object "java/util/Properties"), accessFlags := 10, slot := 11, constantValue := 0 }, { name := "lineSeparator", type := (.object "java/lang/String"), accessFlags := 10, slot := 12, constantValue := 0 }, { name := "bootLayer", type := (.object "java/lang/ModuleLayer"), accessFlags := 8, slot := 13, constantValue := 0 }]
  methods := #[k5m0, k5m1]
  instanceTypes := #[]
  staticTypes := #[(.object "java/io/InputStream"), (.object "java/io/PrintStream"), (.object "java/io/PrintStream"), (.object "java/io/InputStream"), .int, .int, .int, (.object "java/lang/SecurityManager"), (.object "java/lang/String"), (.object "java/io/Console"), (.object "java/io/PrintStream"), (.object "java/util/Properties"), (.object "java/lang/String"), (.object "java/lang/ModuleLayer")]
  resolved := Array.replicate 834 none
  statics := none }

def pool6 : Array CpInfo := pool [(1, u "java/lang/Cloneable"), (0, .class_ 1), (0, u "java/lang/Object"), (0, .class_ 3)] 3

/-- java/lang/Cloneable -/
def k6 : Class := { plain "java/lang/Cloneable" (some 0) with
  accessFlags := 1537
  interfaces := #[]
  cf := some (fileOf pool6 2 #[] #[] 1537 4 #[] #[])
  fields := #[]
  methods := #[]
  instanceTypes := #[]
  staticTypes := #[]
  resolved := Array.replicate 8 none
  statics := none }

def pool7 : Array CpInfo := pool [(1, u "java/io/Serializable"), (0, .class_ 1), (0, u "java/lang/Object"), (0, .class_ 3)] 3

/-- java/io/Serializable -/
def k7 : Class := { plain "java/io/Serializable" (some 0) with
  accessFlags := 1537
  interfaces := #[]
  cf := some (fileOf pool7 2 #[] #[] 1537 4 #[] #[])
  fields := #[]
  methods := #[]
  instanceTypes := #[]
  staticTypes := #[]
  resolved := Array.replicate 8 none
  statics := none }

/-- the primitive boolean -/
def k8 : Class := { plain "boolean" none with kind := .primitive 'Z', accessFlags := 0x411 }
/-- [Z -/
def k9 : Class := { plain "[Z" (some 0) with kind := .array 8 .boolean, interfaces := #[6, 7], accessFlags := 1041 }

/-- the primitive byte -/
def k10 : Class := { plain "byte" none with kind := .primitive 'B', accessFlags := 0x411 }
/-- [B -/
def k11 : Class := { plain "[B" (some 0) with kind := .array 10 .byte, interfaces := #[6, 7], accessFlags := 1041 }

/-- the primitive int -/
def k12 : Class := { plain "int" none with kind := .primitive 'I', accessFlags := 0x411 }
/-- [I -/
def k13 : Class := { plain "[I" (some 0) with kind := .array 12 .int, interfaces := #[6, 7], accessFlags := 1041 }

def heap : Heap := #[]
def classes : Array Class := #[k0, k1, k2, k3, k4, k5, k6, k7, k8, k9, k10, k11, k12, k13]
def interned : List (Array UInt16 × Addr) := []
def slotsUsed : Nat := 0
def theMethod : MethodId := ⟨1, 3⟩
def args0 : Array Value := #[.int 13, .int 5, .int 77, .int 2]
def aboutOver (below : List Frame) : State where
  vm := { classes := classes, interned := interned.toArray }
  heap := heap
  slotsUsed := slotsUsed
  threads := #[{ frames := .invoking theMethod args0 :: below }]
def below0 : List Frame := [.native { method := ⟨0, 0⟩, args := #[] }]
def about1 : State := aboutOver below0
def p0 : Program := .bare "" "" ""
def e0 : Env := launch0.env 0 0 0
theorem w_frames : about1.frames = Frame.invoking theMethod args0 :: below0 := rfl
set_option maxRecDepth 65536 in
theorem w_args : argsFit about1.vm theMethod args0 = true := by decide +kernel
set_option maxRecDepth 65536 in
theorem w_heap : heapFits about1 = true := by decide +kernel
set_option maxRecDepth 65536 in
theorem w_runnable : about1.curStatus? = some .runnable := by decide +kernel
set_option maxRecDepth 65536 in
theorem w_alone : about1.alone = true := by decide +kernel
set_option maxRecDepth 65536 in
theorem w_named : about1.methodNamed? x = some theMethod := by decide +kernel
set_option maxRecDepth 65536 in
theorem w_hears : about1.hears theMethod below0 = true := by decide +kernel
set_option maxRecDepth 65536 in
theorem w_ripe : about1.ripe theMethod args0 below0 = true := by decide +kernel
theorem w_running : about1.status = .running := rfl
set_option maxRecDepth 65536 in
theorem w_room : about1.hasRoom e0.platform room_1 = true :=
  launch0.hasRoom_least _ room_1 (by decide +kernel) (by decide +kernel) (by decide +kernel) (by decide +kernel) (by decide +kernel) (by decide +kernel)
theorem allAtoms_all (ts : List Jvm.Cond) (a : Array Jvm.Value) (st : Jvm.State) : (allAtoms ts).before a st = ts.all (fun c => c.before a st) := by
  induction ts with
  | nil => rfl
  | cons c t ih =>
    show (Jvm.Cond.and c (allAtoms t)).before a st = _
    rw [Jvm.Cond.before_and, ih, List.all_cons]
def words1 : List Jvm.Cond := Jvm.Cond.code x code maxLocals ret :: tables_1
/-- a 'code' word, met by the world's own term for the bytes: nothing is compared byte by byte -/
theorem code_word {y : MethodName} {bytes : ByteArray} {mx : Nat} {rt : Option FieldType} {a : Array Value} {s : State} {m : MethodId} {meth : Method} {c : Code} (h1 : s.methodNamed? y = some m) (h2 : s.vm.method? m = some meth) (h3 : meth.code = some c) (h4 : c.code = bytes)
    (h5 : (c.maxLocals == mx && c.exceptionTable.isEmpty && decide (c.maxStack ≤ mostOperands) && decide (meth.sig.returnType = rt) && !meth.locks && decide (parseMethodDescriptor y.desc = some meth.sig)) = true) : (Jvm.Cond.code y bytes mx rt).before a s = true := by
  simp only [Bool.and_eq_true, beq_iff_eq, Bool.not_eq_true', decide_eq_true_eq] at h5
  obtain ⟨⟨⟨⟨⟨g1, g2⟩, g3⟩, g4⟩, g5⟩, g6⟩ := h5
  simp [Cond.before, Cond.holds, Cond.value, h1, h2, h3, h4, g1, g2, g3, g4, g5, g6]
def isCode : Jvm.Cond → Bool
  | .code _ _ _ _ => true
  | _ => false
theorem all_split {L : List Jvm.Cond} {P : Jvm.Cond → Bool} (h1 : L.all (fun c => isCode c || P c) = true) (h2 : ∀ c ∈ L.filter isCode, P c = true) : L.all P = true := by
  refine List.all_eq_true.mpr fun c hc => ?_
  have h := List.all_eq_true.mp h1 c hc
  rcases Bool.eq_false_or_eq_true (isCode c) with hi | hi
  · exact h2 c (List.mem_filter.mpr ⟨hc, hi⟩)
  · simpa [hi] using h
set_option maxRecDepth 65536 in
theorem w_c0 : (Jvm.Cond.code x code maxLocals ret).before args0 about1 = true := code_word (m := ⟨1, 3⟩) (meth := k1m3) (c := k1c3) (by decide +kernel) rfl rfl rfl (by decide +kernel)
set_option maxRecDepth 65536 in
theorem w_c1 : (Jvm.Cond.code ({ cls := "com/example/quayside/quayside/Row", name := "<init>", desc := "()V" } : Jvm.MethodName) prog_62_method_1_code (1 : Nat) (Option.none : Option Jvm.ClassFile.FieldType)).before args0 about1 = true := code_word (m := ⟨2, 0⟩) (meth := k2m0) (c := k2c0) (by decide +kernel) rfl rfl rfl (by decide +kernel)
set_option maxRecDepth 65536 in
theorem w_c2 : (Jvm.Cond.code ({ cls := "java/lang/Object", name := "<init>", desc := "()V" } : Jvm.MethodName) object_method_1_code (1 : Nat) (Option.none : Option Jvm.ClassFile.FieldType)).before args0 about1 = true := code_word (m := ⟨0, 0⟩) (meth := k0m0) (c := k0c0) (by decide +kernel) rfl rfl rfl (by decide +kernel)
set_option maxRecDepth 65536 in
theorem w_c3 : (Jvm.Cond.code ({ cls := "com/example/quayside/quayside/RowIsNullPinLaw", name := "bit", desc := "(II)Z" } : Jvm.MethodName) method_2_code (2 : Nat) (Option.some Jvm.ClassFile.FieldType.boolean)).before args0 about1 = true := code_word (m := ⟨1, 1⟩) (meth := k1m1) (c := k1c1) (by decide +kernel) rfl rfl rfl (by decide +kernel)
set_option maxRecDepth 65536 in
theorem w_c4 : (Jvm.Cond.code ({ cls := "com/example/quayside/quayside/RowIsNullPinLaw", name := "put", desc := "(Lcom/example/quayside/quayside/Row;[ZIZII)I" } : Jvm.MethodName) method_3_code (8 : Nat) (Option.some Jvm.ClassFile.FieldType.int)).before args0 about1 = true := code_word (m := ⟨1, 2⟩) (meth := k1m2) (c := k1c2) (by decide +kernel) rfl rfl rfl (by decide +kernel)
set_option maxRecDepth 65536 in
theorem w_c5 : (Jvm.Cond.code ({ cls := "com/example/quayside/quayside/Row", name := "add", desc := "(II)V" } : Jvm.MethodName) prog_62_method_3_code (3 : Nat) (Option.none : Option Jvm.ClassFile.FieldType)).before args0 about1 = true := code_word (m := ⟨2, 2⟩) (meth := k2m2) (c := k2c2) (by decide +kernel) rfl rfl rfl (by decide +kernel)
set_option maxRecDepth 65536 in
theorem w_c6 : (Jvm.Cond.code ({ cls := "java/lang/Math", name := "max", desc := "(II)I" } : Jvm.MethodName) jdk_29_method_65_code (2 : Nat) (Option.some Jvm.ClassFile.FieldType.int)).before args0 about1 = true := code_word (m := ⟨3, 1⟩) (meth := k3m1) (c := k3c1) (by decide +kernel) rfl rfl rfl (by decide +kernel)
set_option maxRecDepth 65536 in
theorem w_c7 : (Jvm.Cond.code ({ cls := "com/example/quayside/quayside/Row", name := "size", desc := "()I" } : Jvm.MethodName) prog_62_method_9_code (1 : Nat) (Option.some Jvm.ClassFile.FieldType.int)).before args0 about1 = true := code_word (m := ⟨2, 4⟩) (meth := k2m4) (c := k2c4) (by decide +kernel) rfl rfl rfl (by decide +kernel)
set_option maxRecDepth 65536 in
theorem w_c8 : (Jvm.Cond.code ({ cls := "com/example/quayside/quayside/Row", name := "isNull", desc := "(I)Z" } : Jvm.MethodName) prog_62_method_10_code (2 : Nat) (Option.some Jvm.ClassFile.FieldType.boolean)).before args0 about1 = true := code_word (m := ⟨2, 5⟩) (meth := k2m5) (c := k2c5) (by decide +kernel) rfl rfl rfl (by decide +kernel)
set_option maxRecDepth 65536 in
theorem w_c9 : (Jvm.Cond.code ({ cls := "com/example/quayside/quayside/Row", name := "clear", desc := "()V" } : Jvm.MethodName) prog_62_method_2_code (1 : Nat) (Option.none : Option Jvm.ClassFile.FieldType)).before args0 about1 = true := code_word (m := ⟨2, 1⟩) (meth := k2m1) (c := k2c1) (by decide +kernel) rfl rfl rfl (by decide +kernel)
set_option maxRecDepth 65536 in
theorem w_c10 : (Jvm.Cond.code ({ cls := "com/example/quayside/quayside/Row", name := "addNull", desc := "()V" } : Jvm.MethodName) prog_62_method_4_code (1 : Nat) (Option.none : Option Jvm.ClassFile.FieldType)).before args0 about1 = true := code_word (m := ⟨2, 3⟩) (meth := k2m3) (c := k2c3) (by decide +kernel) rfl rfl rfl (by decide +kernel)
set_option maxRecDepth 65536 in
theorem w_c11 : (Jvm.Cond.code ({ cls := "java/util/Arrays", name := "copyOf", desc := "([ZI)[Z" } : Jvm.MethodName) jdk_65_method_128_code (3 : Nat) (Option.some (Jvm.ClassFile.FieldType.array Jvm.ClassFile.FieldType.boolean))).before args0 about1 = true := code_word (m := ⟨4, 3⟩) (meth := k4m3) (c := k4c3) (by decide +kernel) rfl rfl rfl (by decide +kernel)
set_option maxRecDepth 65536 in
theorem w_c12 : (Jvm.Cond.code ({ cls := "java/lang/Math", name := "min", desc := "(II)I" } : Jvm.MethodName) jdk_29_method_69_code (2 : Nat) (Option.some Jvm.ClassFile.FieldType.int)).before args0 about1 = true := code_word (m := ⟨3, 2⟩) (meth := k3m2) (c := k3c2) (by decide +kernel) rfl rfl rfl (by decide +kernel)
set_option maxRecDepth 65536 in
theorem w_c13 : (Jvm.Cond.code ({ cls := "java/util/Arrays", name := "copyOf", desc := "([II)[I" } : Jvm.MethodName) jdk_65_method_123_code (3 : Nat) (Option.some (Jvm.ClassFile.FieldType.array Jvm.ClassFile.FieldType.int))).before args0 about1 = true := code_word (m := ⟨4, 2⟩) (meth := k4m2) (c := k4c2) (by decide +kernel) rfl rfl rfl (by decide +kernel)
set_option maxRecDepth 65536 in
theorem w_c14 : (Jvm.Cond.code ({ cls := "java/util/Arrays", name := "fill", desc := "([ZZ)V" } : Jvm.MethodName) jdk_65_method_111_code (4 : Nat) (Option.none : Option Jvm.ClassFile.FieldType)).before args0 about1 = true := code_word (m := ⟨4, 1⟩) (meth := k4m1) (c := k4c1) (by decide +kernel) rfl rfl rfl (by decide +kernel)
def codes1 : List Jvm.Cond := [Jvm.Cond.code x code maxLocals ret, Jvm.Cond.code ({ cls := "com/example/quayside/quayside/Row", name := "<init>", desc := "()V" } : Jvm.MethodName) prog_62_method_1_code (1 : Nat) (Option.none : Option Jvm.ClassFile.FieldType), Jvm.Cond.code ({ cls := "java/lang/Object", name := "<init>", desc := "()V" } : Jvm.MethodName) object_method_1_code (1 : Nat) (Option.none : Option Jvm.ClassFile.FieldType), Jvm.Cond.code ({ cls := "com/example/quayside/quayside/RowIsNullPinLaw", name := "bit", desc := "(II)Z" } : Jvm.MethodName) method_2_code (2 : Nat) (Option.some Jvm.ClassFile.FieldType.boolean), Jvm.Cond.code ({ cls := "com/example/quayside/quayside/RowIsNullPinLaw", name := "put", desc := "(Lcom/example/quayside/quayside/Row;[ZIZII)I" } : Jvm.MethodName) method_3_code (8 : Nat) (Option.some Jvm.ClassFile.FieldType.int), Jvm.Cond.code ({ cls := "com/example/quayside/quayside/Row", name := "add", desc := "(II)V" } : Jvm.MethodName) prog_62_method_3_code (3 : Nat) (Option.none : Option Jvm.ClassFile.FieldType), Jvm.Cond.code ({ cls := "java/lang/Math", name := "max", desc := "(II)I" } : Jvm.MethodName) jdk_29_method_65_code (2 : Nat) (Option.some Jvm.ClassFile.FieldType.int), Jvm.Cond.code ({ cls := "com/example/quayside/quayside/Row", name := "size", desc := "()I" } : Jvm.MethodName) prog_62_method_9_code (1 : Nat) (Option.some Jvm.ClassFile.FieldType.int), Jvm.Cond.code ({ cls := "com/example/quayside/quayside/Row", name := "isNull", desc := "(I)Z" } : Jvm.MethodName) prog_62_method_10_code (2 : Nat) (Option.some Jvm.ClassFile.FieldType.boolean), Jvm.Cond.code ({ cls := "com/example/quayside/quayside/Row", name := "clear", desc := "()V" } : Jvm.MethodName) prog_62_method_2_code (1 : Nat) (Option.none : Option Jvm.ClassFile.FieldType), Jvm.Cond.code ({ cls := "com/example/quayside/quayside/Row", name := "addNull", desc := "()V" } : Jvm.MethodName) prog_62_method_4_code (1 : Nat) (Option.none : Option Jvm.ClassFile.FieldType), Jvm.Cond.code ({ cls := "java/util/Arrays", name := "copyOf", desc := "([ZI)[Z" } : Jvm.MethodName) jdk_65_method_128_code (3 : Nat) (Option.some (Jvm.ClassFile.FieldType.array Jvm.ClassFile.FieldType.boolean)), Jvm.Cond.code ({ cls := "java/lang/Math", name := "min", desc := "(II)I" } : Jvm.MethodName) jdk_29_method_69_code (2 : Nat) (Option.some Jvm.ClassFile.FieldType.int), Jvm.Cond.code ({ cls := "java/util/Arrays", name := "copyOf", desc := "([II)[I" } : Jvm.MethodName) jdk_65_method_123_code (3 : Nat) (Option.some (Jvm.ClassFile.FieldType.array Jvm.ClassFile.FieldType.int)), Jvm.Cond.code ({ cls := "java/util/Arrays", name := "fill", desc := "([ZZ)V" } : Jvm.MethodName) jdk_65_method_111_code (4 : Nat) (Option.none : Option Jvm.ClassFile.FieldType)]
set_option maxRecDepth 65536 in
theorem codes_eq : words1.filter isCode = codes1 := rfl
theorem w_codes : ∀ c ∈ words1.filter isCode, c.before args0 about1 = true := by
  rw [codes_eq]
  intro c hc
  simp only [codes1, List.mem_cons, List.not_mem_nil, or_false] at hc
  rcases hc with rfl | rfl | rfl | rfl | rfl | rfl | rfl | rfl | rfl | rfl | rfl | rfl | rfl | rfl | rfl
  · exact w_c0
  · exact w_c1
  · exact w_c2
  · exact w_c3
  · exact w_c4
  · exact w_c5
  · exact w_c6
  · exact w_c7
  · exact w_c8
  · exact w_c9
  · exact w_c10
  · exact w_c11
  · exact w_c12
  · exact w_c13
  · exact w_c14
set_option maxRecDepth 65536 in
theorem w_t1 : (words1.take 24).all (fun c => isCode c || c.before args0 about1) = true := by decide +kernel
set_option maxRecDepth 65536 in
theorem w_t2 : ((words1.drop 24).take 24).all (fun c => isCode c || c.before args0 about1) = true := by decide +kernel
set_option maxRecDepth 65536 in
theorem w_t3 : (((words1.drop 24).drop 24).take 24).all (fun c => isCode c || c.before args0 about1) = true := by decide +kernel
set_option maxRecDepth 65536 in
theorem w_t4 : (((words1.drop 24).drop 24).drop 24).all (fun c => isCode c || c.before args0 about1) = true := by decide +kernel
theorem w_tables : (allAtoms (Jvm.Cond.code x code maxLocals ret :: tables_1)).before args0 about1 = true := by
  rw [allAtoms_all]
  show words1.all (fun c => c.before args0 about1) = true
  refine all_split ?_ w_codes
  rw [← List.take_append_drop 24 words1, List.all_append, w_t1, ← List.take_append_drop 24 (words1.drop 24), List.all_append, w_t2, ← List.take_append_drop 24 ((words1.drop 24).drop 24), List.all_append, w_t3, w_t4]
  rfl
set_option maxRecDepth 65536 in
theorem w_case : (Jvm.Cond.and given_1 narrow_1).before args0 about1 = true := by decide +kernel
theorem w_applies : (headSpec (Jvm.Cond.code x code maxLocals ret :: tables_1) room_1).applies x e0.platform about1 = true :=
  (Spec.applies_iff w_frames).mpr ⟨w_running, w_runnable, w_alone, w_named, w_hears, w_ripe, w_room, w_tables⟩
theorem atStart : AtStart classFile x code maxLocals ret World_1 tables_1 room_1 Calls_1 rest_1 Pre_1 launch0 p0 e0 about1 theMethod args0 below0 :=
  ⟨lists_1, trivial, launch0.admits_env _ _ _, launch0.least_env, fairChoices_fair.cas, fairChoices_fair.clock, w_frames, w_args, w_heap, w_applies, trivial, trivial, w_case⟩
end start1
theorem witness_1 : WitnessClaimed_1 := ⟨start1.p0, start1.e0, start1.about1, start1.theMethod, start1.args0, start1.below0, start1.atStart⟩
end Jvm.Pilot.@@N@@
