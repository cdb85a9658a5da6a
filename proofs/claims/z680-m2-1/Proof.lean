import JvmDerived
import JvmDerived.Pilot.@@N@@Statement
import JvmDerived.Pilot.@@N@@Code
set_option linter.unusedVariables false
set_option linter.unusedSimpArgs false
namespace Jvm.Pilot.@@N@@
open Jvm Jvm.ClassFile Sem Op Lib Jvm.Free Jvm.Stand Jvm.LawKit Jvm.RoadKit Bundle Jvm.Pilot.@@N@@.Jvm.D
section Own
variable {p : Program} {l : Launch} {e : Env} {R : Room} {s : State} {m : MethodId} {args : Array Value} {below : List Frame} {meth : Method} {c : Code} {T : State} {locs : List Loc} {cells slots : Nat} {Z : State} {a0 : Array Value} {h h' : Heap}
/-- from S the run comes to an end of the method of which QQ holds -/
def own_Go (p : Program) (e : Env) (below : List Frame) (S : State) (QQ : Outcome → State → Prop) : Prop :=
  ∃ s₂ o, Steps p.tables e below S s₂ ∧ s₂.status = .running ∧ Ended s₂ below o ∧ QQ o s₂
theorem own_Go.of {S S' : State} {QQ : Outcome → State → Prop} (h : ∀ t, Steps p.tables e below S' t → Steps p.tables e below S t) (g : own_Go p e below S' QQ) : own_Go p e below S QQ := by
  obtain ⟨a, b, h1, h2⟩ := g
  exact ⟨a, b, h _ h1, h2⟩
/-- how a walked body ends: it returns v, with Q of the value, the heap and the places written -/
def own_End (s : State) (Q : Option Value → Heap → List Loc → Prop) (C K : Nat) : Outcome → State → Prop :=
  fun o U' => ∃ v L, o = .returned v ∧ Q v U'.heap L ∧ FrameEnd s o U' L C K
/-- the contract of a body, as RoadKit.backOf takes it -/
abbrev own_Met (l : Launch) (Z : State) (h0 : Heap) (y : MethodName) (bytes : ByteArray) (maxL : Nat) (ret : Option FieldType) (ws : List Jvm.Cond) (rm : Room) (as' : Array Value) (Q : Option Value → Heap → List Loc → Prop) : Prop :=
  MetFree l y (head1 (Jvm.Cond.code y bytes maxL ret :: ws) rm) (fun a U => a = as' ∧ Z.Warmed39 U.vm ∧ U.heap = h0) (fun _ _ _ _ _ => True) (fun _ U o U' => ∃ v L, o = .returned v ∧ Q v U'.heap L ∧ FrameEnd U o U' L rm.cells rm.slots)
theorem own_enter {h0 : Heap} {y : MethodName} {bytes : ByteArray} {maxL : Nat} {ret : Option FieldType} {ws : List Jvm.Cond} {rm : Room} {as' : Array Value} {Q : Option Value → Heap → List Loc → Prop} (hpl : plainFor y = true)
    (body : ∀ (p : Program) (e : Env) (s : State) (m : MethodId) (below : List Frame) (meth : Method) (c : Code) (T0 : State), Stand p l e rm s m as' below meth c T0 [] 0 0 → p.tables.exec = Jvm.exec → c.code = bytes → c.maxLocals = maxL → meth.sig.returnType = ret → meth.locks = false → s.vm.findClass y.cls = some m.cls → meth.name = y.name → Z.Warmed39 s.vm → T0.heap = h0 →
      own_Go p e below (T0.setTop (entryFrame m as' maxL)) (own_End s Q rm.cells rm.slots)) : own_Met l Z h0 y bytes maxL ret ws rm as' Q := by
  refine MetFree.of_bodySF hpl hisR ?_
  intro p e s m args below meth c s₁ Bd hml0 hP hK
  obtain ⟨rfl, hZ, hh⟩ := hP
  exact body p e s m below meth c s₁ (Stand.of_body Bd) Bd.exec Bd.bytes hml0 Bd.returns Bd.notSynchronized (findClass_of_methodNamed Bd.named) (name_of_methodNamed Bd.named Bd.method).1 hZ (by rw [← hh, Bd.state]; rfl)
theorem own_mono (X : Stand p l e R s m args below meth c T locs cells slots) {c' k' : Nat} (hc : cells ≤ c') (hk : slots ≤ k') : Stand p l e R s m args below meth c T locs c' k' :=
  ⟨X.admits, X.cas, X.clock, X.frames, X.room, X.hears, X.method, X.code, X.here, X.tail, X.warmed, X.limits, X.bytes, X.same.mono hc hk⟩
theorem own_leave (X : Stand p l e R s m args below meth c T locs cells slots) (hlk : meth.locks = false) {v : Option Value} {Q : Option Value → Heap → List Loc → Prop} {C K : Nat} {g : JFrame} (hv : meth.sig.returnType = none → v = none)
    (st : ∀ fs, (∀ (f : JFrame) (acts : List Action), f.method = m → f.locked = none → f.entered = [] → (doReturn e (T.setTop f) acts v).1 = T.setFrames fs) → Steps p.tables e below (T.setTop g) (T.setFrames fs))
    (eT : T.heap = h) (hQ : Q v h locs) (hc : cells ≤ C) (hk : slots ≤ K) : own_Go p e below (T.setTop g) (own_End s Q C K) := by
  obtain ⟨fs, hr, hrun, hended, hW, hsame⟩ := X.leave (v := v) hv hlk
  subst eT
  exact ⟨_, _, st fs hr, hrun, hended, v, locs, rfl, hQ, ⟨_, rfl⟩, hW, hsame.mono hc hk⟩
theorem own_retI (X : Stand p l e R s m args below meth c T locs cells slots) (hx : p.tables.exec = Jvm.exec) (hlk : meth.locks = false) {pc : Nat} {Ls : Array Slot} {z : Int32} {rest : List Value} {Q : Option Value → Heap → List Loc → Prop} {C K : Nat} (hret : meth.sig.returnType = some .int) (hd : decode c.code pc = .ok (.ireturn, 1))
    (eT : T.heap = h) (hQ : Q (some (.int z)) h locs) (hc : cells ≤ C) (hk : slots ≤ K) : own_Go p e below (T.setTop (mkF m pc Ls (.int z :: rest))) (own_End s Q C K) := by
  refine own_leave X hlk (fun q => by rw [hret] at q; cases q) (fun fs hl => ?_) eT hQ hc hk
  have hm' : T.vm.method? m = some meth := X.method'
  have hn : narrow .int (.int z) = .int z := rfl
  show Steps p.tables e below (T.setTop { method := m, pc := pc, locals := Ls, stack := _ :: rest, locked := none }) _
  jvm_step X.here [X.here.top, hx, hd, hm', hret, hn]
  first | (intro acts; rw [hl _ acts rfl rfl rfl]) | rw [hl _ _ rfl rfl rfl]
  exact Steps.refl _
theorem own_retN (X : Stand p l e R s m args below meth c T locs cells slots) (hx : p.tables.exec = Jvm.exec) (hlk : meth.locks = false) {pc : Nat} {Ls : Array Slot} {z : Int32} {t : FieldType} {rest : List Value} {Q : Option Value → Heap → List Loc → Prop} {C K : Nat} (hret : meth.sig.returnType = some t) (ht : t = .boolean ∨ t = .byte ∨ t = .char ∨ t = .short) (hd : decode c.code pc = .ok (.ireturn, 1))
    (eT : T.heap = h) (hQ : Q (some (.int (nar t z))) h locs) (hc : cells ≤ C) (hk : slots ≤ K) : own_Go p e below (T.setTop (mkF m pc Ls (.int z :: rest))) (own_End s Q C K) :=
  own_leave X hlk (fun q => by rw [hret] at q; cases q) (fun fs hl => retN X hx hret ht hd hl) eT hQ hc hk
theorem own_retV (X : Stand p l e R s m args below meth c T locs cells slots) (hx : p.tables.exec = Jvm.exec) (hlk : meth.locks = false) {pc : Nat} {Ls : Array Slot} {Q : Option Value → Heap → List Loc → Prop} {C K : Nat} (hret : meth.sig.returnType = none) (hd : decode c.code pc = .ok (.return_, 1))
    (eT : T.heap = h) (hQ : Q none h locs) (hc : cells ≤ C) (hk : slots ≤ K) : own_Go p e below (T.setTop (mkF m pc Ls [])) (own_End s Q C K) :=
  own_leave X hlk (fun _ => rfl) (fun fs hl => X.returnOut hx hret hd hl) eT hQ hc hk
theorem own_retJ (X : Stand p l e R s m args below meth c T locs cells slots) (hx : p.tables.exec = Jvm.exec) (hlk : meth.locks = false) {pc : Nat} {Ls : Array Slot} {z : Int64} {Q : Option Value → Heap → List Loc → Prop} {C K : Nat} (hret : meth.sig.returnType = some .long) (hd : decode c.code pc = .ok (.lreturn, 1))
    (eT : T.heap = h) (hQ : Q (some (.long z)) h locs) (hc : cells ≤ C) (hk : slots ≤ K) : own_Go p e below (T.setTop (mkF m pc Ls [.long z])) (own_End s Q C K) :=
  own_leave X hlk (fun q => by rw [hret] at q; cases q) (fun fs hl => X.lreturnOut hx hret hd hl) eT hQ hc hk
theorem own_retA (X : Stand p l e R s m args below meth c T locs cells slots) (hx : p.tables.exec = Jvm.exec) (hlk : meth.locks = false) {pc : Nat} {Ls : Array Slot} {v : Value} {t : FieldType} {rest : List Value} {Q : Option Value → Heap → List Loc → Prop} {C K : Nat} (hret : meth.sig.returnType = some t) (ht : t.isReference = true) (hv : v.isRef = true) (hd : decode c.code pc = .ok (.areturn, 1))
    (eT : T.heap = h) (hQ : Q (some v) h locs) (hc : cells ≤ C) (hk : slots ≤ K) : own_Go p e below (T.setTop (mkF m pc Ls (v :: rest))) (own_End s Q C K) := by
  refine own_leave X hlk (fun q => by rw [hret] at q; cases q) (fun fs hl => ?_) eT hQ hc hk
  have hm' : T.vm.method? m = some meth := X.method'
  show Steps p.tables e below (T.setTop { method := m, pc := pc, locals := Ls, stack := _ :: rest, locked := none }) _
  jvm_step X.here [X.here.top, hx, hd, hm', hret, ht, hv]
  first | (intro acts; rw [hl _ acts rfl rfl rfl]) | rw [hl _ _ rfl rfl rfl]
  exact Steps.refl _
/-! an array whose place i holds f i -/
def own_Ar (Z : State) (h : Heap) (a : Addr) (ty : FieldType) (n : Nat) (f : Nat → Value) : Prop :=
  n < 2 ^ 31 ∧ ∃ c : Cell, Arr Z h a c ty ∧ c.slots.size = n ∧ ∀ i, i < n → c.slots[i]? = some (f i) ∧ fits ty (f i) = true
def own_up (f : Nat → Value) (k : Nat) (v : Value) : Nat → Value := fun i => if i = k then v else f i
def own_I (g : Nat → Int32) : Nat → Value := fun j => .int (g j)
def own_set (g : Nat → Int32) (k : Nat) (x : Int32) : Nat → Int32 := fun j => if j = k then x else g j
theorem own_upI {g : Nat → Int32} {k : Nat} {x : Int32} : own_up (own_I g) k (.int x) = own_I (own_set g k x) := by
  funext j
  unfold own_up own_I own_set
  by_cases q : j = k
  · rw [if_pos q, if_pos q]
  · rw [if_neg q, if_neg q]
section Arrays
variable {a b : Addr} {ty : FieldType} {n k : Nat} {f : Nat → Value} {v : Value} {ws : List Addr} {sl : Nat} {j : Int32}
theorem own_Ar.lt (F : own_Ar Z h a ty n f) : a < h.size := by obtain ⟨_, c, A, _⟩ := F; exact A.lt
theorem own_Ar.ext (F : own_Ar Z h a ty n f) (E : Ext h h') : own_Ar Z h' a ty n f := by obtain ⟨q, c, A, r⟩ := F; exact ⟨q, c, A.ext E, r⟩
theorem own_Ar.other (F : own_Ar Z h b ty n f) (W : Wr h h' a sl v) (q : b ≠ a) : own_Ar Z h' b ty n f := by obtain ⟨q0, c, A, r⟩ := F; exact ⟨q0, c, A.other W q, r⟩
theorem own_Ar.keep (F : own_Ar Z h a ty n f) (K : Keep h h' ws) (q : a ∉ ws) : own_Ar Z h' a ty n f := by obtain ⟨q0, c, A, r⟩ := F; exact ⟨q0, c, ⟨K.2.1 a c A.1 q, A.2⟩, r⟩
theorem own_Ar.eqv {g : Nat → Value} (F : own_Ar Z h a ty n f) (q : ∀ i, i < n → f i = g i) : own_Ar Z h a ty n g := by
  obtain ⟨q0, c, A, r1, r2⟩ := F; exact ⟨q0, c, A, r1, fun i hi => by rw [← q i hi]; exact r2 i hi⟩
theorem own_Ar.eqvI {g g' : Nat → Int32} (F : own_Ar Z h a ty n (own_I g)) (q : ∀ i, i < n → g i = g' i) : own_Ar Z h a ty n (own_I g') := F.eqv fun i hi => by show Value.int _ = Value.int _; rw [q i hi]
theorem own_clamp (hk : k < 2 ^ 31) : (Int32.ofNat k).toNatClampNeg = k ∧ ¬ Int32.ofNat k < 0 := by
  have e : (Int32.ofNat k).toInt = (k : Int) := Int32.toInt_ofNat_of_lt hk
  refine ⟨?_, ?_⟩
  · show (Int32.ofNat k).toInt.toNat = k
    rw [e]; rfl
  · rw [Int32.lt_iff_toInt_lt, e]
    show ¬ ((k : Int) < 0)
    omega
theorem own_inb {cl : Cell} (S : cl.slots.size = n) (hn : n < 2 ^ 31) (e : j = Int32.ofNat k) (hk : k < n) : ¬ (j < 0 ∨ cl.slots.size ≤ j.toNatClampNeg) := by
  subst e
  obtain ⟨e1, e2⟩ := own_clamp (k := k) (by omega)
  rw [e1, S]
  rintro (q | q)
  · exact e2 q
  · omega
theorem own_Ar.get (F : own_Ar Z h a ty n f) (q : j = Int32.ofNat k ∧ k < n) : ∃ cl : Cell, Arr Z h a cl ty ∧ ¬ (j < 0 ∨ cl.slots.size ≤ j.toNatClampNeg) ∧ cl.slots[j.toNatClampNeg]? = some (f k) := by
  obtain ⟨hn, c, A, S, H⟩ := F
  refine ⟨c, A, own_inb S hn q.1 q.2, ?_⟩
  rw [q.1, (own_clamp (k := k) (by omega)).1]
  exact (H k q.2).1
theorem own_Ar.len (F : own_Ar Z h a ty n f) : ∃ cl : Cell, Arr Z h a cl ty ∧ cl.slots.size.toInt32 = Int32.ofNat n := by
  obtain ⟨hn, c, A, S, H⟩ := F
  refine ⟨c, A, ?_⟩
  rw [S]
theorem own_Ar.put (F : own_Ar Z h a ty n f) (q : j = Int32.ofNat k ∧ k < n) : ∃ cl : Cell, Arr Z h a cl ty ∧ ¬ (j < 0 ∨ cl.slots.size ≤ j.toNatClampNeg) ∧ ∀ {v : Value} {h' : Heap}, fits ty v = true → Wr h h' a j.toNatClampNeg v → own_Ar Z h' a ty n (own_up f k v) := by
  obtain ⟨hn, c, A, S, H⟩ := F
  refine ⟨c, A, own_inb S hn q.1 q.2, fun {v h'} hv W => ⟨hn, _, A.same W, by rw [sz_set]; exact S, fun i hi => ?_⟩⟩
  rw [q.1, (own_clamp (k := k) (by omega)).1]
  by_cases u : i = k
  · subst u
    simp [own_up, Cell.setSlot, S, hi, hv]
  · have u' : ¬ k = i := fun z => u z.symm
    simp only [own_up, u, if_false, Cell.setSlot, Array.getElem?_setIfInBounds, u']
    exact H i hi
theorem own_newP (X : Stand p l e R s m args below meth c T locs cells slots) (hx : p.tables.exec = Jvm.exec) (hZ : Z.Warmed39 s.vm) {aty : ArrayType} (w : (Cond.arrayClass (newarray.typeOf aty)).before a0 Z = true) (eT : T.heap = h) {g : JFrame} (hg : g.method = m) (hd : decode c.code g.pc = .ok (.newarray aty, 2)) {z : Int32} {rest : List Value} (hs : g.stack = .int z :: rest)
    {n cap : Nat} (hz : z = Int32.ofNat n) (hn : n ≤ cap) (hb : cap * 8 ≤ 536870912) (hc : cells + 1 ≤ R.cells) (hl : slots + cap ≤ R.slots) :
    ∃ T' h', Stand p l e R s m args below meth c T' locs (cells + 1) (slots + cap) ∧ T'.heap = h' ∧ Ext h h' ∧ own_Ar Z h' h.size (newarray.typeOf aty) n (fun _ => defaultValue (newarray.typeOf aty)) ∧
      ∀ target, Steps p.tables e below (T'.setTop { g with pc := g.pc + 2, stack := .ref h.size :: rest }) target → Steps p.tables e below (T.setTop g) target := by
  obtain ⟨e1, e2⟩ := own_clamp (k := n) (by omega)
  subst hz
  obtain ⟨T', h', cA, X', e', E, A, st⟩ := newP X hx hZ w eT hg hd hs e2 (cap := cap) (by rw [e1]; exact hn) hb hc hl
  refine ⟨T', h', X', e', E, ⟨by omega, _, A, by rw [sz_new, e1], fun i hi => ⟨?_, by cases aty <;> rfl⟩⟩, st⟩
  simp [newA, e1, hi]
end Arrays
theorem own_st1 {l : Array Slot} {i : Nat} {v : Value} {o : Slot} (hold : l[i]? = some o) (ho : o = .unset ∨ ∃ w, o = .val w ∧ w.category = 1) (hv : v.category = 1) : storeLocals l i v = some (l.setIfInBounds i (.val v)) := XS.store1 hold ho hv
/-- the cell at x stands as it stood -/
def own_Kx (h h' : Heap) (x : Addr) : Prop := h.size ≤ h'.size ∧ ∀ c : Cell, h[x]? = some c → h'[x]? = some c
section Kx
variable {x a : Addr} {h2 : Heap} {sl : Nat} {v : Value} {ws : List Addr}
theorem own_Kx.refl : own_Kx h h x := ⟨Nat.le_refl _, fun _ q => q⟩
theorem own_Kx.ext (K : own_Kx h h' x) (E : Ext h' h2) : own_Kx h h2 x := ⟨Nat.le_trans K.1 E.1, fun c q => E.2 _ _ (K.2 c q)⟩
theorem own_Kx.keep (K : own_Kx h h' x) (K' : Keep h' h2 ws) (q : x ∉ ws) : own_Kx h h2 x := ⟨Nat.le_trans K.1 K'.1, fun c r => K'.2.1 _ _ (K.2 c r) q⟩
theorem own_Kx.wr (K : own_Kx h h' x) (W : Wr h' h2 a sl v) (q : x ≠ a) : own_Kx h h2 x := K.keep (Keep.of_wr W) (ninS q nin0)
theorem own_Kx.trans (K : own_Kx h h' x) (K' : own_Kx h' h2 x) : own_Kx h h2 x := ⟨Nat.le_trans K.1 K'.1, fun c r => K'.2 _ (K.2 c r)⟩
theorem own_Ar.kx {ty : FieldType} {n : Nat} {f : Nat → Value} (F : own_Ar Z h x ty n f) (K : own_Kx h h' x) : own_Ar Z h' x ty n f := by obtain ⟨q0, c, A, r⟩ := F; exact ⟨q0, c, ⟨K.2 c A.1, A.2⟩, r⟩
def own_Lt (h : Heap) (x : Addr) : Prop := x < h.size
theorem own_Lt.lt (q : own_Lt h x) : x < h.size := q
theorem own_Lt.ext (q : own_Lt h x) (E : Ext h h') : own_Lt h' x := Nat.lt_of_lt_of_le q E.1
theorem own_Lt.keep (q : own_Lt h x) (K : Keep h h' ws) : own_Lt h' x := Nat.lt_of_lt_of_le q K.1
theorem own_Lt.wr (q : own_Lt h x) (W : Wr h h' a sl v) : own_Lt h' x := q.keep (Keep.of_wr W)
theorem own_Lt.kx {y : Addr} (q : own_Lt h x) (K : own_Kx h h' y) : own_Lt h' x := Nat.lt_of_lt_of_le q K.1
end Kx
/-! numbers: small naturals as ints -/
theorem own_toInt {a : Nat} (ha : a < 2 ^ 31) : (Int32.ofNat a).toInt = (a : Int) := Int32.toInt_ofNat_of_lt ha
theorem own_mask (x : Int32) (m : Nat) : ∃ k : Nat, k ≤ m ∧ (x &&& Int32.ofNat m) = Int32.ofNat k := by
  refine ⟨(x.toBitVec.toNat &&& (m % 2 ^ 32)), Nat.le_trans Nat.and_le_right (Nat.mod_le _ _), ?_⟩
  apply Int32.toBitVec_inj.mp
  apply BitVec.eq_of_toNat_eq
  rw [Int32.toBitVec_and, BitVec.toNat_and]
  show _ &&& (BitVec.ofNat 32 m).toNat = (BitVec.ofNat 32 _).toNat
  rw [BitVec.toNat_ofNat, BitVec.toNat_ofNat]
  rw [Nat.mod_eq_of_lt (a := _ &&& _)]
  exact Nat.lt_of_le_of_lt Nat.and_le_right (Nat.mod_lt _ (by decide))
theorem own_ltN {a b : Nat} (ha : a < 2 ^ 31) (hb : b < 2 ^ 31) : Int32.ofNat a < Int32.ofNat b ↔ a < b := by
  rw [Int32.lt_iff_toInt_lt, own_toInt ha, own_toInt hb]; omega
theorem own_eqN' {a b : Nat} (h : a = b) : Int32.ofNat a = Int32.ofNat b := by rw [h]
theorem own_eqN {a b : Nat} (ha : a < 2 ^ 31) (hb : b < 2 ^ 31) : Int32.ofNat a = Int32.ofNat b ↔ a = b := by
  constructor
  · intro h
    have h2 := congrArg Int32.toInt h
    rw [own_toInt ha, own_toInt hb] at h2; omega
  · exact own_eqN'
theorem own_addN (a b : Nat) : Int32.ofNat a + Int32.ofNat b = Int32.ofNat (a + b) := (Int32.ofNat_add a b).symm
theorem own_subN {a b : Nat} (h : b ≤ a) : Int32.ofNat a - Int32.ofNat b = Int32.ofNat (a - b) := by
  have h2 : Int32.ofNat a = Int32.ofNat (a - b) + Int32.ofNat b := by rw [own_addN]; congr 1; omega
  rw [h2, Int32.add_sub_cancel]
theorem own_nzN {a : Nat} (h0 : 0 < a) (ha : a < 2 ^ 31) : Int32.ofNat a ≠ (0 : Int32) := by
  intro h
  have h2 : Int32.ofNat a = Int32.ofNat 0 := h
  rw [own_eqN ha (by decide)] at h2; omega
theorem own_remN {a b : Nat} (ha : a < 2 ^ 31) (hb : b < 2 ^ 31) : (Int32.ofNat a - (Int32.ofNat a / Int32.ofNat b) * Int32.ofNat b) = Int32.ofNat (a % b) := by
  apply Int32.toInt_inj.mp
  have hm : a % b < 2 ^ 31 := Nat.lt_of_le_of_lt (Nat.mod_le _ _) ha
  rw [rem_toInt, own_toInt ha, own_toInt hb, own_toInt hm]
  exact (Int.ofNat_tmod a b).symm
end Own
theorem d5_0 : decode jdk_41_method_12_code 0 = .ok (.iload_n 0, 1) := by decide +kernel
theorem d5_1 : decode jdk_41_method_12_code 1 = .ok (.ifCond .lt 13, 3) := by decide +kernel
theorem d5_4 : decode jdk_41_method_12_code 4 = .ok (.iload_n 0, 1) := by decide +kernel
theorem d5_5 : decode jdk_41_method_12_code 5 = .ok (.iload_n 1, 1) := by decide +kernel
theorem d5_6 : decode jdk_41_method_12_code 6 = .ok (.if_icmp .gt 8, 3) := by decide +kernel
theorem d5_9 : decode jdk_41_method_12_code 9 = .ok (.iload_n 1, 1) := by decide +kernel
theorem d5_10 : decode jdk_41_method_12_code 10 = .ok (.iload_n 2, 1) := by decide +kernel
theorem d5_11 : decode jdk_41_method_12_code 11 = .ok (.if_icmp .le 11, 3) := by decide +kernel
theorem d5_14 : decode jdk_41_method_12_code 14 = .ok (.aload_n 3, 1) := by decide +kernel
theorem d5_15 : decode jdk_41_method_12_code 15 = .ok (.iload_n 0, 1) := by decide +kernel
theorem d5_16 : decode jdk_41_method_12_code 16 = .ok (.iload_n 1, 1) := by decide +kernel
theorem d5_17 : decode jdk_41_method_12_code 17 = .ok (.iload_n 2, 1) := by decide +kernel
theorem d5_18 : decode jdk_41_method_12_code 18 = .ok (.invokestatic 99, 3) := by decide +kernel
theorem d5_21 : decode jdk_41_method_12_code 21 = .ok (.athrow, 1) := by decide +kernel
theorem d5_22 : decode jdk_41_method_12_code 22 = .ok (.iload_n 0, 1) := by decide +kernel
theorem d5_23 : decode jdk_41_method_12_code 23 = .ok (.ireturn, 1) := by decide +kernel
theorem pn_5 : plainName "jdk/internal/util/Preconditions" = true := by first | (simp [plainName, overriddenIn]; done) | decide +kernel
def Q_rm5 (Z : State) (a : Nat) (b : Nat) (n : Nat) (h0 : Heap) (n0 : Nat) (v : Option Value) (h : Heap) (L : List Loc) : Prop := v = some (.int (Int32.ofNat a)) ∧ Fr n0 L ∧ h = h0
set_option maxRecDepth 65536 in
set_option maxHeartbeats 40000000 in
theorem rm5 (l : Launch) (Z : State) (a0 : Array Value) (hw : ∀ d ∈ tables_1, d.before a0 Z = true) (ws : List Jvm.Cond) (a : Nat) (b : Nat) (n : Nat) (h0 : Heap) (n0 : Nat) (Z0 : n0 ≤ h0.size) (hab : a ≤ b) (hbn : b ≤ n) (hn : n < 2 ^ 31) :
    own_Met l Z h0 (⟨"jdk/internal/util/Preconditions", "checkFromToIndex", "(IIILjava/util/function/BiFunction;)I"⟩ : MethodName) jdk_41_method_12_code 4 (some .int) ws ({ frames := 0, cells := 0, slots := 0, locals := 0 } : Room) #[(.int (Int32.ofNat a)), (.int (Int32.ofNat b)), (.int (Int32.ofNat n)), .null] (Q_rm5 Z a b n h0 n0) := by
  refine own_enter (plainFor_of_name pn_5) ?_
  intro p e s m below meth c T0 X0 hx hby hml hret hlk hown hnm hZ e0
  have N0 := Fr.nil n0
  rw [show entryFrame m #[(.int (Int32.ofNat a)), (.int (Int32.ofNat b)), (.int (Int32.ofNat n)), .null] 4 = (mkF m 0 #[.val (.int (Int32.ofNat a)), .val (.int (Int32.ofNat b)), .val (.int (Int32.ofNat n)), .val .null] []) from by first | rfl | simp [entryFrame, mkF, argsToLocals, Value.category]]
  refine own_Go.of (S' := (T0.setTop (mkF m 23 #[.val (.int (Int32.ofNat a)), .val (.int (Int32.ofNat b)), .val (.int (Int32.ofNat n)), .val .null] [(.int (Int32.ofNat a))]))) (fun t kt => ?_) ?_
  · show Steps p.tables e below (T0.setTop (mkF m 0 #[.val (.int (Int32.ofNat a)), .val (.int (Int32.ofNat b)), .val (.int (Int32.ofNat n)), .val .null] [])) _
    refine XS.iloadN X0.here hx rfl (hb hby d5_0) rfl ?_
    show Steps p.tables e below (T0.setTop (mkF m 1 #[.val (.int (Int32.ofNat a)), .val (.int (Int32.ofNat b)), .val (.int (Int32.ofNat n)), .val .null] [(.int (Int32.ofNat a))])) _
    refine XS.ifNo X0.here hx rfl (hb hby d5_1) rfl ((if0 _ _).trans (flt (fun q => by have h2 := (own_ltN (b := 0) (by omega) (by decide)).mp q; omega)).1) ?_
    show Steps p.tables e below (T0.setTop (mkF m 4 #[.val (.int (Int32.ofNat a)), .val (.int (Int32.ofNat b)), .val (.int (Int32.ofNat n)), .val .null] [])) _
    refine XS.iloadN X0.here hx rfl (hb hby d5_4) rfl ?_
    show Steps p.tables e below (T0.setTop (mkF m 5 #[.val (.int (Int32.ofNat a)), .val (.int (Int32.ofNat b)), .val (.int (Int32.ofNat n)), .val .null] [(.int (Int32.ofNat a))])) _
    refine XS.iloadN X0.here hx rfl (hb hby d5_5) rfl ?_
    show Steps p.tables e below (T0.setTop (mkF m 6 #[.val (.int (Int32.ofNat a)), .val (.int (Int32.ofNat b)), .val (.int (Int32.ofNat n)), .val .null] [(.int (Int32.ofNat b)), (.int (Int32.ofNat a))])) _
    refine XS.icmpNo X0.here hx rfl (hb hby d5_6) rfl (flt (fun q => by have h2 := (own_ltN (by omega) (by omega)).mp q; omega)).2.2.1 ?_
    show Steps p.tables e below (T0.setTop (mkF m 9 #[.val (.int (Int32.ofNat a)), .val (.int (Int32.ofNat b)), .val (.int (Int32.ofNat n)), .val .null] [])) _
    refine XS.iloadN X0.here hx rfl (hb hby d5_9) rfl ?_
    show Steps p.tables e below (T0.setTop (mkF m 10 #[.val (.int (Int32.ofNat a)), .val (.int (Int32.ofNat b)), .val (.int (Int32.ofNat n)), .val .null] [(.int (Int32.ofNat b))])) _
    refine XS.iloadN X0.here hx rfl (hb hby d5_10) rfl ?_
    show Steps p.tables e below (T0.setTop (mkF m 11 #[.val (.int (Int32.ofNat a)), .val (.int (Int32.ofNat b)), .val (.int (Int32.ofNat n)), .val .null] [(.int (Int32.ofNat n)), (.int (Int32.ofNat b))])) _
    refine XS.icmpYes X0.here hx rfl (pc0 := 11) (pc' := 22) rfl (hb hby d5_11) rfl (flt (fun q => by have h2 := (own_ltN (by omega) (by omega)).mp q; omega)).2.2.2 (by decide) (by decide) ?_
    show Steps p.tables e below (T0.setTop (mkF m 22 #[.val (.int (Int32.ofNat a)), .val (.int (Int32.ofNat b)), .val (.int (Int32.ofNat n)), .val .null] [])) _
    refine XS.iloadN X0.here hx rfl (hb hby d5_22) rfl ?_
    exact kt
  exact own_retI X0 hx hlk hret (hb hby d5_23) e0 ⟨rfl, N0, rfl⟩ (by decide) (by decide)
theorem d4_0 : decode jdk_31_method_18_code 0 = .ok (.iload_n 0, 1) := by decide +kernel
theorem d4_1 : decode jdk_31_method_18_code 1 = .ok (.iload_n 1, 1) := by decide +kernel
theorem d4_2 : decode jdk_31_method_18_code 2 = .ok (.iload_n 2, 1) := by decide +kernel
theorem d4_3 : decode jdk_31_method_18_code 3 = .ok (.aconst_null, 1) := by decide +kernel
theorem d4_4 : decode jdk_31_method_18_code 4 = .ok (.invokestatic 111, 3) := by decide +kernel
theorem d4_7 : decode jdk_31_method_18_code 7 = .ok (.ireturn, 1) := by decide +kernel
theorem pn_4 : plainName "java/util/Objects" = true := by first | (simp [plainName, overriddenIn]; done) | decide +kernel
theorem pd_0 : parseMethodDescriptor "(IIILjava/util/function/BiFunction;)I" = some ⟨[.int, .int, .int, (.object "java/util/function/BiFunction")], some .int⟩ := by decide +kernel
def Q_rm4 (Z : State) (a : Nat) (b : Nat) (n : Nat) (h0 : Heap) (n0 : Nat) (v : Option Value) (h : Heap) (L : List Loc) : Prop := v = some (.int (Int32.ofNat a)) ∧ Fr n0 L ∧ h = h0
set_option maxRecDepth 65536 in
set_option maxHeartbeats 40000000 in
theorem rm4 (l : Launch) (Z : State) (a0 : Array Value) (hw : ∀ d ∈ tables_1, d.before a0 Z = true) (ws : List Jvm.Cond) (a : Nat) (b : Nat) (n : Nat) (h0 : Heap) (n0 : Nat) (Z0 : n0 ≤ h0.size) (hab : a ≤ b) (hbn : b ≤ n) (hn : n < 2 ^ 31) :
    own_Met l Z h0 (⟨"java/util/Objects", "checkFromToIndex", "(III)I"⟩ : MethodName) jdk_31_method_18_code 3 (some .int) ws ({ frames := 1, cells := 0, slots := 0, locals := 15 } : Room) #[(.int (Int32.ofNat a)), (.int (Int32.ofNat b)), (.int (Int32.ofNat n))] (Q_rm4 Z a b n h0 n0) := by
  refine own_enter (plainFor_of_name pn_4) ?_
  intro p e s m below meth c T0 X0 hx hby hml hret hlk hown hnm hZ e0
  have N0 := Fr.nil n0
  rw [show entryFrame m #[(.int (Int32.ofNat a)), (.int (Int32.ofNat b)), (.int (Int32.ofNat n))] 3 = (mkF m 0 #[.val (.int (Int32.ofNat a)), .val (.int (Int32.ofNat b)), .val (.int (Int32.ofNat n))] []) from by first | rfl | simp [entryFrame, mkF, argsToLocals, Value.category]]
  refine own_Go.of (S' := (T0.setTop (mkF m 4 #[.val (.int (Int32.ofNat a)), .val (.int (Int32.ofNat b)), .val (.int (Int32.ofNat n))] [.null, (.int (Int32.ofNat n)), (.int (Int32.ofNat b)), (.int (Int32.ofNat a))]))) (fun t kt => ?_) ?_
  · show Steps p.tables e below (T0.setTop (mkF m 0 #[.val (.int (Int32.ofNat a)), .val (.int (Int32.ofNat b)), .val (.int (Int32.ofNat n))] [])) _
    refine XS.iloadN X0.here hx rfl (hb hby d4_0) rfl ?_
    show Steps p.tables e below (T0.setTop (mkF m 1 #[.val (.int (Int32.ofNat a)), .val (.int (Int32.ofNat b)), .val (.int (Int32.ofNat n))] [(.int (Int32.ofNat a))])) _
    refine XS.iloadN X0.here hx rfl (hb hby d4_1) rfl ?_
    show Steps p.tables e below (T0.setTop (mkF m 2 #[.val (.int (Int32.ofNat a)), .val (.int (Int32.ofNat b)), .val (.int (Int32.ofNat n))] [(.int (Int32.ofNat b)), (.int (Int32.ofNat a))])) _
    refine XS.iloadN X0.here hx rfl (hb hby d4_2) rfl ?_
    show Steps p.tables e below (T0.setTop (mkF m 3 #[.val (.int (Int32.ofNat a)), .val (.int (Int32.ofNat b)), .val (.int (Int32.ofNat n))] [(.int (Int32.ofNat n)), (.int (Int32.ofNat b)), (.int (Int32.ofNat a))])) _
    refine XS.aconstNull X0.here hx rfl (hb hby d4_3) ?_
    exact kt
  obtain ⟨_, _, ⟨T1, L1, k1, n1⟩, -, X1, ⟨Lc1, hQ1, l1, y1, z1⟩, st1⟩ := Jvm.LawKit.callS X0 hx (y := (⟨"jdk/internal/util/Preconditions", "checkFromToIndex", "(IIILjava/util/function/BiFunction;)I"⟩ : MethodName)) hown (mvT hZ (hw _ (List.mem_of_getElem? (i := 19) rfl))) (mvT hZ (hw _ (List.mem_of_getElem? (i := 20) rfl))) (mvT hZ (hw _ (List.mem_of_getElem? (i := 21) rfl))) (mvT hZ (hw _ (List.mem_of_getElem? (i := 22) rfl))) (by decide) (backOf (W := 0) (rm5 l Z a0 hw [] a b n h0 n0 Z0 hab hbn hn) hZ (hw _ (List.mem_of_getElem? (i := 22) rfl)) (hw _ (List.mem_of_getElem? (i := 21) rfl)) (by decide) (by decide)) (g := (mkF m 4 #[.val (.int (Int32.ofNat a)), .val (.int (Int32.ofNat b)), .val (.int (Int32.ofNat n))] [.null, (.int (Int32.ofNat n)), (.int (Int32.ofNat b)), (.int (Int32.ofNat a))])) rfl (by rw [hml]; rfl) (argsL := [(.int (Int32.ofNat a)), (.int (Int32.ofNat b)), (.int (Int32.ofNat n)), .null]) (rest := []) (lenOf pd_0 rfl) rfl (by show 2 * 0 + _ ≤ _; exact Nat.le_of_eq rfl) (hb hby d4_4) (fun _ _ => ⟨rfl, e0, (by decide : 0 + 0 ≤ _), (by decide : 0 + 0 ≤ _)⟩)
  dsimp only [Pt.U, Pt.locs, Pt.cells, Pt.slots] at X1 l1 y1 z1 st1 hQ1
  subst l1 y1 z1
  obtain ⟨rfl, N1q, hh1⟩ := hQ1
  have N1 := Fr.app N0 N1q
  refine own_Go.of (S' := (T1.setTop (mkF m 7 #[.val (.int (Int32.ofNat a)), .val (.int (Int32.ofNat b)), .val (.int (Int32.ofNat n))] [(.int (Int32.ofNat a))]))) (fun t kt => st1 t kt) ?_
  exact own_retI X1 hx hlk hret (hb hby d4_7) hh1 ⟨rfl, N1, rfl⟩ (by decide) (by decide)
theorem d2_0 : decode jdk_30_method_1_code 0 = .ok (.aload_n 0, 1) := by decide +kernel
theorem d2_1 : decode jdk_30_method_1_code 1 = .ok (.invokespecial 1, 3) := by decide +kernel
theorem d2_4 : decode jdk_30_method_1_code 4 = .ok (.return_, 1) := by decide +kernel
theorem pn_2 : plainName "java/lang/Record" = true := by first | (simp [plainName, overriddenIn]; done) | decide +kernel
def Q_rm2 (Z : State) (o : Addr) (h0 : Heap) (n0 : Nat) (v : Option Value) (h : Heap) (L : List Loc) : Prop := v = none ∧ Fr n0 L ∧ h = h0
set_option maxRecDepth 65536 in
set_option maxHeartbeats 40000000 in
theorem rm2 (l : Launch) (Z : State) (a0 : Array Value) (hw : ∀ d ∈ tables_1, d.before a0 Z = true) (ws : List Jvm.Cond) (o : Addr) (h0 : Heap) (n0 : Nat) (Z0 : n0 ≤ h0.size)  :
    own_Met l Z h0 (⟨"java/lang/Record", "<init>", "()V"⟩ : MethodName) jdk_30_method_1_code 1 none ws ({ frames := 1, cells := 0, slots := 0, locals := 12 } : Room) #[(.ref o)] (Q_rm2 Z o h0 n0) := by
  refine own_enter (plainFor_of_name pn_2) ?_
  intro p e s m below meth c T0 X0 hx hby hml hret hlk hown hnm hZ e0
  have N0 := Fr.nil n0
  rw [show entryFrame m #[(.ref o)] 1 = (mkF m 0 #[.val (.ref o)] []) from by first | rfl | simp [entryFrame, mkF, argsToLocals, Value.category]]
  refine own_Go.of (S' := (T0.setTop (mkF m 1 #[.val (.ref o)] [(.ref o)]))) (fun t kt => ?_) ?_
  · show Steps p.tables e below (T0.setTop (mkF m 0 #[.val (.ref o)] [])) _
    refine XS.aloadN X0.here hx rfl (hb hby d2_0) rfl rfl ?_
    exact kt
  obtain ⟨T2, X2, e2, st2⟩ := initO X0 hx hZ hown (hw _ (List.mem_of_getElem? (i := 12) rfl)) (hw _ (List.mem_of_getElem? (i := 13) rfl)) (hw _ (List.mem_of_getElem? (i := 14) rfl)) e0 (g := (mkF m 1 #[.val (.ref o)] [(.ref o)])) rfl (by rw [hml]; rfl) rfl (hb hby d2_1) (by decide) (W := 0) (by show 2 * 0 + _ ≤ _; exact Nat.le_of_eq rfl) (by decide)
  refine own_Go.of (S' := (T2.setTop (mkF m 4 #[.val (.ref o)] []))) st2 ?_
  exact own_retV X2 hx hlk hret (hb hby d2_4) e2 ⟨rfl, N0, rfl⟩ (by decide) (by decide)
theorem d1_0 : decode prog_80_method_1_code 0 = .ok (.aload_n 0, 1) := by decide +kernel
theorem d1_1 : decode prog_80_method_1_code 1 = .ok (.invokespecial 1, 3) := by decide +kernel
theorem d1_4 : decode prog_80_method_1_code 4 = .ok (.iload_n 2, 1) := by decide +kernel
theorem d1_5 : decode prog_80_method_1_code 5 = .ok (.iload_n 3, 1) := by decide +kernel
theorem d1_6 : decode prog_80_method_1_code 6 = .ok (.aload_n 1, 1) := by decide +kernel
theorem d1_7 : decode prog_80_method_1_code 7 = .ok (.arraylength, 1) := by decide +kernel
theorem d1_8 : decode prog_80_method_1_code 8 = .ok (.invokestatic 7, 3) := by decide +kernel
theorem d1_11 : decode prog_80_method_1_code 11 = .ok (.pop, 1) := by decide +kernel
theorem d1_12 : decode prog_80_method_1_code 12 = .ok (.aload_n 0, 1) := by decide +kernel
theorem d1_13 : decode prog_80_method_1_code 13 = .ok (.aload_n 1, 1) := by decide +kernel
theorem d1_14 : decode prog_80_method_1_code 14 = .ok (.putfield 13, 3) := by decide +kernel
theorem d1_17 : decode prog_80_method_1_code 17 = .ok (.aload_n 0, 1) := by decide +kernel
theorem d1_18 : decode prog_80_method_1_code 18 = .ok (.iload_n 2, 1) := by decide +kernel
theorem d1_19 : decode prog_80_method_1_code 19 = .ok (.putfield 19, 3) := by decide +kernel
theorem d1_22 : decode prog_80_method_1_code 22 = .ok (.aload_n 0, 1) := by decide +kernel
theorem d1_23 : decode prog_80_method_1_code 23 = .ok (.iload_n 3, 1) := by decide +kernel
theorem d1_24 : decode prog_80_method_1_code 24 = .ok (.putfield 23, 3) := by decide +kernel
theorem d1_27 : decode prog_80_method_1_code 27 = .ok (.return_, 1) := by decide +kernel
theorem pn_1 : plainName "com/example/gridwire/gridwire/store/ByteSpan" = true := by first | (simp [plainName, overriddenIn]; done) | decide +kernel
theorem pd_1 : parseMethodDescriptor "()V" = some ⟨[], none⟩ := by decide +kernel
theorem pd_2 : parseMethodDescriptor "(III)I" = some ⟨[.int, .int, .int], some .int⟩ := by decide +kernel
def Q_rm1 (Z : State) (o : Addr) (r : Addr) (a : Nat) (b : Nat) (n : Nat) (f : Nat → Value) (u1 : Value) (u2 : Value) (u3 : Value) (h0 : Heap) (n0 : Nat) (v : Option Value) (h : Heap) (L : List Loc) : Prop := v = none ∧ Fr n0 L ∧ Keep h0 h [o] ∧ (Exa Z h o "com/example/gridwire/gridwire/store/ByteSpan") ∧ (Fld Z h o "com/example/gridwire/gridwire/store/ByteSpan" "array" "[B" (.ref r)) ∧ (Fld Z h o "com/example/gridwire/gridwire/store/ByteSpan" "from" "I" (.int (Int32.ofNat a))) ∧ (Fld Z h o "com/example/gridwire/gridwire/store/ByteSpan" "to" "I" (.int (Int32.ofNat b)))
set_option maxRecDepth 65536 in
set_option maxHeartbeats 40000000 in
theorem rm1 (l : Launch) (Z : State) (a0 : Array Value) (hw : ∀ d ∈ tables_1, d.before a0 Z = true) (ws : List Jvm.Cond) (o : Addr) (r : Addr) (a : Nat) (b : Nat) (n : Nat) (f : Nat → Value) (u1 : Value) (u2 : Value) (u3 : Value) (h0 : Heap) (n0 : Nat) (Z0 : n0 ≤ h0.size) (pr0 : Exa Z h0 o "com/example/gridwire/gridwire/store/ByteSpan") (pr1 : Fld Z h0 o "com/example/gridwire/gridwire/store/ByteSpan" "array" "[B" u1) (pr2 : Fld Z h0 o "com/example/gridwire/gridwire/store/ByteSpan" "from" "I" u2) (pr3 : Fld Z h0 o "com/example/gridwire/gridwire/store/ByteSpan" "to" "I" u3) (pr4 : own_Ar Z h0 r .byte n f) (pr5 : n0 ≤ o) (pr6 : r ≠ o) (hab : a ≤ b) (hbn : b ≤ n) (hn : n < 2 ^ 31) :
    own_Met l Z h0 (⟨"com/example/gridwire/gridwire/store/ByteSpan", "<init>", "([BII)V"⟩ : MethodName) prog_80_method_1_code 4 none ws ({ frames := 2, cells := 0, slots := 0, locals := 29 } : Room) #[(.ref o), (.ref r), (.int (Int32.ofNat a)), (.int (Int32.ofNat b))] (Q_rm1 Z o r a b n f u1 u2 u3 h0 n0) := by
  refine own_enter (plainFor_of_name pn_1) ?_
  intro p e s m below meth c T0 X0 hx hby hml hret hlk hown hnm hZ e0
  have N0 := Fr.nil n0
  have kp0 : Keep h0 h0 [o] := Keep.refl h0 _
  rw [show entryFrame m #[(.ref o), (.ref r), (.int (Int32.ofNat a)), (.int (Int32.ofNat b))] 4 = (mkF m 0 #[.val (.ref o), .val (.ref r), .val (.int (Int32.ofNat a)), .val (.int (Int32.ofNat b))] []) from by first | rfl | simp [entryFrame, mkF, argsToLocals, Value.category]]
  refine own_Go.of (S' := (T0.setTop (mkF m 1 #[.val (.ref o), .val (.ref r), .val (.int (Int32.ofNat a)), .val (.int (Int32.ofNat b))] [(.ref o)]))) (fun t kt => ?_) ?_
  · show Steps p.tables e below (T0.setTop (mkF m 0 #[.val (.ref o), .val (.ref r), .val (.int (Int32.ofNat a)), .val (.int (Int32.ofNat b))] [])) _
    refine XS.aloadN X0.here hx rfl (hb hby d1_0) rfl rfl ?_
    exact kt
  obtain ⟨_, _, ⟨T3, L3, k3, n3⟩, -, X3, ⟨Lc3, hQ3, l3, y3, z3⟩, st3⟩ := X0.specialBack hx (y := (⟨"java/lang/Record", "<init>", "()V"⟩ : MethodName)) rfl hown (mvT hZ (hw _ (List.mem_of_getElem? (i := 7) rfl))) (mvT hZ (hw _ (List.mem_of_getElem? (i := 8) rfl))) (mvT hZ (hw _ (List.mem_of_getElem? (i := 11) rfl))) (by decide) (backOf (W := 0) (rm2 l Z a0 hw [] o h0 n0 Z0 ) hZ (hw _ (List.mem_of_getElem? (i := 11) rfl)) (hw _ (List.mem_of_getElem? (i := 10) rfl)) (by decide) (by decide)) (g := (mkF m 1 #[.val (.ref o), .val (.ref r), .val (.int (Int32.ofNat a)), .val (.int (Int32.ofNat b))] [(.ref o)])) rfl (by rw [hml]; rfl) (Steps.refl _) (a := o) (argsL := []) (rest := []) (lenOf pd_1 rfl) rfl (by show 2 * 0 + _ ≤ _; exact Nat.le_of_eq rfl) (hb hby d1_1) (fun _ _ => ⟨rfl, e0, (by decide : 0 + 0 ≤ _), (by decide : 0 + 0 ≤ _)⟩)
  dsimp only [Pt.U, Pt.locs, Pt.cells, Pt.slots] at X3 l3 y3 z3 st3 hQ3
  subst l3 y3 z3
  obtain ⟨rfl, N3q, hh3⟩ := hQ3
  have N3 := Fr.app N0 N3q
  refine own_Go.of (S' := (T3.setTop (mkF m 4 #[.val (.ref o), .val (.ref r), .val (.int (Int32.ofNat a)), .val (.int (Int32.ofNat b))] []))) (fun t kt => st3.trans kt) ?_
  refine own_Go.of (S' := (T3.setTop (mkF m 7 #[.val (.ref o), .val (.ref r), .val (.int (Int32.ofNat a)), .val (.int (Int32.ofNat b))] [(.ref r), (.int (Int32.ofNat b)), (.int (Int32.ofNat a))]))) (fun t kt => ?_) ?_
  · show Steps p.tables e below (T3.setTop (mkF m 4 #[.val (.ref o), .val (.ref r), .val (.int (Int32.ofNat a)), .val (.int (Int32.ofNat b))] [])) _
    refine XS.iloadN X3.here hx rfl (hb hby d1_4) rfl ?_
    show Steps p.tables e below (T3.setTop (mkF m 5 #[.val (.ref o), .val (.ref r), .val (.int (Int32.ofNat a)), .val (.int (Int32.ofNat b))] [(.int (Int32.ofNat a))])) _
    refine XS.iloadN X3.here hx rfl (hb hby d1_5) rfl ?_
    show Steps p.tables e below (T3.setTop (mkF m 6 #[.val (.ref o), .val (.ref r), .val (.int (Int32.ofNat a)), .val (.int (Int32.ofNat b))] [(.int (Int32.ofNat b)), (.int (Int32.ofNat a))])) _
    refine XS.aloadN X3.here hx rfl (hb hby d1_6) rfl rfl ?_
    exact kt
  obtain ⟨cl4, Ar4, hln4⟩ := own_Ar.len pr4
  refine own_Go.of (S' := (T3.setTop (mkF m 8 #[.val (.ref o), .val (.ref r), .val (.int (Int32.ofNat a)), .val (.int (Int32.ofNat b))] [(.int (Int32.ofNat n)), (.int (Int32.ofNat b)), (.int (Int32.ofNat a))]))) (fun t kt => ?_) ?_
  · show Steps p.tables e below (T3.setTop (mkF m 7 #[.val (.ref o), .val (.ref r), .val (.int (Int32.ofNat a)), .val (.int (Int32.ofNat b))] [(.ref r), (.int (Int32.ofNat b)), (.int (Int32.ofNat a))])) _
    refine X3.arraylength hx (by rw [hh3]; exact Ar4.1) (State.isArrayOf_alike hZ.alike Ar4.2.1) (g := (mkF m 7 #[.val (.ref o), .val (.ref r), .val (.int (Int32.ofNat a)), .val (.int (Int32.ofNat b))] [(.ref r), (.int (Int32.ofNat b)), (.int (Int32.ofNat a))])) rfl rfl (hb hby d1_7) _ ?_
    rw [hln4]
    exact kt
  obtain ⟨_, _, ⟨T5, L5, k5, n5⟩, -, X5, ⟨Lc5, hQ5, l5, y5, z5⟩, st5⟩ := Jvm.LawKit.callS X3 hx (y := (⟨"java/util/Objects", "checkFromToIndex", "(III)I"⟩ : MethodName)) hown (mvT hZ (hw _ (List.mem_of_getElem? (i := 15) rfl))) (mvT hZ (hw _ (List.mem_of_getElem? (i := 16) rfl))) (mvT hZ (hw _ (List.mem_of_getElem? (i := 17) rfl))) (mvT hZ (hw _ (List.mem_of_getElem? (i := 18) rfl))) (by decide) (backOf (W := 0) (rm4 l Z a0 hw [] a b n h0 n0 Z0 hab hbn hn) hZ (hw _ (List.mem_of_getElem? (i := 18) rfl)) (hw _ (List.mem_of_getElem? (i := 17) rfl)) (by decide) (by decide)) (g := (mkF m 8 #[.val (.ref o), .val (.ref r), .val (.int (Int32.ofNat a)), .val (.int (Int32.ofNat b))] [(.int (Int32.ofNat n)), (.int (Int32.ofNat b)), (.int (Int32.ofNat a))])) rfl (by rw [hml]; rfl) (argsL := [(.int (Int32.ofNat a)), (.int (Int32.ofNat b)), (.int (Int32.ofNat n))]) (rest := []) (lenOf pd_2 rfl) rfl (by show 2 * 0 + _ ≤ _; exact Nat.le_of_eq rfl) (hb hby d1_8) (fun _ _ => ⟨rfl, hh3, (by decide : 0 + 0 ≤ _), (by decide : 0 + 0 ≤ _)⟩)
  dsimp only [Pt.U, Pt.locs, Pt.cells, Pt.slots] at X5 l5 y5 z5 st5 hQ5
  subst l5 y5 z5
  obtain ⟨rfl, N5q, hh5⟩ := hQ5
  have N5 := Fr.app N3 N5q
  refine own_Go.of (S' := (T5.setTop (mkF m 11 #[.val (.ref o), .val (.ref r), .val (.int (Int32.ofNat a)), .val (.int (Int32.ofNat b))] [(.int (Int32.ofNat a))]))) (fun t kt => st5 t kt) ?_
  refine own_Go.of (S' := (T5.setTop (mkF m 14 #[.val (.ref o), .val (.ref r), .val (.int (Int32.ofNat a)), .val (.int (Int32.ofNat b))] [(.ref r), (.ref o)]))) (fun t kt => ?_) ?_
  · show Steps p.tables e below (T5.setTop (mkF m 11 #[.val (.ref o), .val (.ref r), .val (.int (Int32.ofNat a)), .val (.int (Int32.ofNat b))] [(.int (Int32.ofNat a))])) _
    refine XS.pop X5.here hx rfl (hb hby d1_11) rfl rfl ?_
    show Steps p.tables e below (T5.setTop (mkF m 12 #[.val (.ref o), .val (.ref r), .val (.int (Int32.ofNat a)), .val (.int (Int32.ofNat b))] [])) _
    refine XS.aloadN X5.here hx rfl (hb hby d1_12) rfl rfl ?_
    show Steps p.tables e below (T5.setTop (mkF m 13 #[.val (.ref o), .val (.ref r), .val (.int (Int32.ofNat a)), .val (.int (Int32.ofNat b))] [(.ref o)])) _
    refine XS.aloadN X5.here hx rfl (hb hby d1_13) rfl rfl ?_
    exact kt
  obtain ⟨T6, h6, X6, e6, W6, st6⟩ := putF X5 hx hZ hown (host := "") (Or.inl (hw _ (List.mem_of_getElem? (i := 23) rfl))) Via.refl hh5 pr1 pr0 (Or.inr ⟨(hw _ (List.mem_of_getElem? (i := 24) rfl)), rfl, hnm⟩) (hw _ (List.mem_of_getElem? (i := 2) rfl)) (ty := (.array .byte)) (by decide) rfl rfl (g := (mkF m 14 #[.val (.ref o), .val (.ref r), .val (.int (Int32.ofNat a)), .val (.int (Int32.ofNat b))] [(.ref r), (.ref o)])) rfl rfl (hb hby d1_14)
  refine own_Go.of (S' := (T6.setTop (mkF m 17 #[.val (.ref o), .val (.ref r), .val (.int (Int32.ofNat a)), .val (.int (Int32.ofNat b))] []))) st6 ?_
  have f7 : Exa Z h6 o "com/example/gridwire/gridwire/store/ByteSpan" := pr0.wr W6
  have f8 : Fld Z h6 o "com/example/gridwire/gridwire/store/ByteSpan" "from" "I" u2 := pr2.other W6 (Or.inr (slot_ne (Or.inr (hw _ (List.mem_of_getElem? (i := 26) rfl))) (Or.inr (hw _ (List.mem_of_getElem? (i := 24) rfl))) (by decide) (t := .int) (t' := (.array .byte)) (by decide) (by decide)))
  have f9 : Fld Z h6 o "com/example/gridwire/gridwire/store/ByteSpan" "to" "I" u3 := pr3.other W6 (Or.inr (slot_ne (Or.inr (hw _ (List.mem_of_getElem? (i := 28) rfl))) (Or.inr (hw _ (List.mem_of_getElem? (i := 24) rfl))) (by decide) (t := .int) (t' := (.array .byte)) (by decide) (by decide)))
  have f10 : own_Ar Z h6 r .byte n f := pr4.other W6 pr6
  have z11 : n0 ≤ h6.size := Nat.le_trans Z0 (Keep.of_wr W6).1
  have kp12 : Keep h0 h6 [o] := kp0.wr W6 (Or.inl (List.mem_of_getElem? (i := 0) rfl))
  have f13 : Fld Z h6 o "com/example/gridwire/gridwire/store/ByteSpan" "array" "[B" (.ref r) := pr1.same W6
  have N6 := Fr.snoc X6 N5 pr5
  refine own_Go.of (S' := (T6.setTop (mkF m 19 #[.val (.ref o), .val (.ref r), .val (.int (Int32.ofNat a)), .val (.int (Int32.ofNat b))] [(.int (Int32.ofNat a)), (.ref o)]))) (fun t kt => ?_) ?_
  · show Steps p.tables e below (T6.setTop (mkF m 17 #[.val (.ref o), .val (.ref r), .val (.int (Int32.ofNat a)), .val (.int (Int32.ofNat b))] [])) _
    refine XS.aloadN X6.here hx rfl (hb hby d1_17) rfl rfl ?_
    show Steps p.tables e below (T6.setTop (mkF m 18 #[.val (.ref o), .val (.ref r), .val (.int (Int32.ofNat a)), .val (.int (Int32.ofNat b))] [(.ref o)])) _
    refine XS.iloadN X6.here hx rfl (hb hby d1_18) rfl ?_
    exact kt
  obtain ⟨T14, h14, X14, e14, W14, st14⟩ := putF X6 hx hZ hown (host := "") (Or.inl (hw _ (List.mem_of_getElem? (i := 25) rfl))) Via.refl e6 f8 f7 (Or.inr ⟨(hw _ (List.mem_of_getElem? (i := 26) rfl)), rfl, hnm⟩) (hw _ (List.mem_of_getElem? (i := 2) rfl)) (ty := .int) (by decide) rfl rfl (g := (mkF m 19 #[.val (.ref o), .val (.ref r), .val (.int (Int32.ofNat a)), .val (.int (Int32.ofNat b))] [(.int (Int32.ofNat a)), (.ref o)])) rfl rfl (hb hby d1_19)
  refine own_Go.of (S' := (T14.setTop (mkF m 22 #[.val (.ref o), .val (.ref r), .val (.int (Int32.ofNat a)), .val (.int (Int32.ofNat b))] []))) st14 ?_
  have f15 : Exa Z h14 o "com/example/gridwire/gridwire/store/ByteSpan" := f7.wr W14
  have f16 : Fld Z h14 o "com/example/gridwire/gridwire/store/ByteSpan" "array" "[B" (.ref r) := f13.other W14 (Or.inr (slot_ne (Or.inr (hw _ (List.mem_of_getElem? (i := 24) rfl))) (Or.inr (hw _ (List.mem_of_getElem? (i := 26) rfl))) (by decide) (t := (.array .byte)) (t' := .int) (by decide) (by decide)))
  have f17 : Fld Z h14 o "com/example/gridwire/gridwire/store/ByteSpan" "to" "I" u3 := f9.other W14 (Or.inr (slot_ne (Or.inr (hw _ (List.mem_of_getElem? (i := 28) rfl))) (Or.inr (hw _ (List.mem_of_getElem? (i := 26) rfl))) (by decide) (t := .int) (t' := .int) (by decide) (by decide)))
  have f18 : own_Ar Z h14 r .byte n f := f10.other W14 pr6
  have z19 : n0 ≤ h14.size := Nat.le_trans z11 (Keep.of_wr W14).1
  have kp20 : Keep h0 h14 [o] := kp12.wr W14 (Or.inl (List.mem_of_getElem? (i := 0) rfl))
  have f21 : Fld Z h14 o "com/example/gridwire/gridwire/store/ByteSpan" "from" "I" (.int (Int32.ofNat a)) := f8.same W14
  have N14 := Fr.snoc X14 N6 pr5
  refine own_Go.of (S' := (T14.setTop (mkF m 24 #[.val (.ref o), .val (.ref r), .val (.int (Int32.ofNat a)), .val (.int (Int32.ofNat b))] [(.int (Int32.ofNat b)), (.ref o)]))) (fun t kt => ?_) ?_
  · show Steps p.tables e below (T14.setTop (mkF m 22 #[.val (.ref o), .val (.ref r), .val (.int (Int32.ofNat a)), .val (.int (Int32.ofNat b))] [])) _
    refine XS.aloadN X14.here hx rfl (hb hby d1_22) rfl rfl ?_
    show Steps p.tables e below (T14.setTop (mkF m 23 #[.val (.ref o), .val (.ref r), .val (.int (Int32.ofNat a)), .val (.int (Int32.ofNat b))] [(.ref o)])) _
    refine XS.iloadN X14.here hx rfl (hb hby d1_23) rfl ?_
    exact kt
  obtain ⟨T22, h22, X22, e22, W22, st22⟩ := putF X14 hx hZ hown (host := "") (Or.inl (hw _ (List.mem_of_getElem? (i := 27) rfl))) Via.refl e14 f17 f15 (Or.inr ⟨(hw _ (List.mem_of_getElem? (i := 28) rfl)), rfl, hnm⟩) (hw _ (List.mem_of_getElem? (i := 2) rfl)) (ty := .int) (by decide) rfl rfl (g := (mkF m 24 #[.val (.ref o), .val (.ref r), .val (.int (Int32.ofNat a)), .val (.int (Int32.ofNat b))] [(.int (Int32.ofNat b)), (.ref o)])) rfl rfl (hb hby d1_24)
  refine own_Go.of (S' := (T22.setTop (mkF m 27 #[.val (.ref o), .val (.ref r), .val (.int (Int32.ofNat a)), .val (.int (Int32.ofNat b))] []))) st22 ?_
  have f23 : Exa Z h22 o "com/example/gridwire/gridwire/store/ByteSpan" := f15.wr W22
  have f24 : Fld Z h22 o "com/example/gridwire/gridwire/store/ByteSpan" "array" "[B" (.ref r) := f16.other W22 (Or.inr (slot_ne (Or.inr (hw _ (List.mem_of_getElem? (i := 24) rfl))) (Or.inr (hw _ (List.mem_of_getElem? (i := 28) rfl))) (by decide) (t := (.array .byte)) (t' := .int) (by decide) (by decide)))
  have f25 : Fld Z h22 o "com/example/gridwire/gridwire/store/ByteSpan" "from" "I" (.int (Int32.ofNat a)) := f21.other W22 (Or.inr (slot_ne (Or.inr (hw _ (List.mem_of_getElem? (i := 26) rfl))) (Or.inr (hw _ (List.mem_of_getElem? (i := 28) rfl))) (by decide) (t := .int) (t' := .int) (by decide) (by decide)))
  have f26 : own_Ar Z h22 r .byte n f := f18.other W22 pr6
  have z27 : n0 ≤ h22.size := Nat.le_trans z19 (Keep.of_wr W22).1
  have kp28 : Keep h0 h22 [o] := kp20.wr W22 (Or.inl (List.mem_of_getElem? (i := 0) rfl))
  have f29 : Fld Z h22 o "com/example/gridwire/gridwire/store/ByteSpan" "to" "I" (.int (Int32.ofNat b)) := f17.same W22
  have N22 := Fr.snoc X22 N14 pr5
  exact own_retV X22 hx hlk hret (hb hby d1_27) e22 ⟨rfl, N22, kp28, f23, f24, f25, f29⟩ (by decide) (by decide)
theorem d6_0 : decode prog_80_method_4_code 0 = .ok (.aload_n 0, 1) := by decide +kernel
theorem d6_1 : decode prog_80_method_4_code 1 = .ok (.getfield 19, 3) := by decide +kernel
theorem d6_4 : decode prog_80_method_4_code 4 = .ok (.ifCond .ne 19, 3) := by decide +kernel
theorem d6_7 : decode prog_80_method_4_code 7 = .ok (.aload_n 0, 1) := by decide +kernel
theorem d6_8 : decode prog_80_method_4_code 8 = .ok (.getfield 23, 3) := by decide +kernel
theorem d6_11 : decode prog_80_method_4_code 11 = .ok (.aload_n 0, 1) := by decide +kernel
theorem d6_12 : decode prog_80_method_4_code 12 = .ok (.getfield 13, 3) := by decide +kernel
theorem d6_15 : decode prog_80_method_4_code 15 = .ok (.arraylength, 1) := by decide +kernel
theorem d6_16 : decode prog_80_method_4_code 16 = .ok (.if_icmp .ne 7, 3) := by decide +kernel
theorem d6_19 : decode prog_80_method_4_code 19 = .ok (.iconst 1, 1) := by decide +kernel
theorem d6_20 : decode prog_80_method_4_code 20 = .ok (.goto 4, 3) := by decide +kernel
theorem d6_23 : decode prog_80_method_4_code 23 = .ok (.iconst 0, 1) := by decide +kernel
theorem d6_24 : decode prog_80_method_4_code 24 = .ok (.ireturn, 1) := by decide +kernel
theorem pn_6 : plainName "com/example/gridwire/gridwire/store/ByteSpan" = true := by first | (simp [plainName, overriddenIn]; done) | decide +kernel
def Q_rm6 (Z : State) (o : Addr) (r : Addr) (a : Nat) (b : Nat) (n : Nat) (f : Nat → Value) (h0 : Heap) (n0 : Nat) (v : Option Value) (h : Heap) (L : List Loc) : Prop := v = some (.int (if a = 0 ∧ b = n then (1 : Int32) else 0)) ∧ Fr n0 L ∧ h = h0
set_option maxRecDepth 65536 in
set_option maxHeartbeats 40000000 in
theorem rm6 (l : Launch) (Z : State) (a0 : Array Value) (hw : ∀ d ∈ tables_1, d.before a0 Z = true) (ws : List Jvm.Cond) (o : Addr) (r : Addr) (a : Nat) (b : Nat) (n : Nat) (f : Nat → Value) (h0 : Heap) (n0 : Nat) (Z0 : n0 ≤ h0.size) (pr0 : Fld Z h0 o "com/example/gridwire/gridwire/store/ByteSpan" "array" "[B" (.ref r)) (pr1 : Fld Z h0 o "com/example/gridwire/gridwire/store/ByteSpan" "from" "I" (.int (Int32.ofNat a))) (pr2 : Fld Z h0 o "com/example/gridwire/gridwire/store/ByteSpan" "to" "I" (.int (Int32.ofNat b))) (pr3 : own_Ar Z h0 r .byte n f) (hab : a ≤ b) (hbn : b ≤ n) (hn : n < 2 ^ 31) :
    own_Met l Z h0 (⟨"com/example/gridwire/gridwire/store/ByteSpan", "isWholeArray", "()Z"⟩ : MethodName) prog_80_method_4_code 1 (some .boolean) ws ({ frames := 0, cells := 0, slots := 0, locals := 0 } : Room) #[(.ref o)] (Q_rm6 Z o r a b n f h0 n0) := by
  refine own_enter (plainFor_of_name pn_6) ?_
  intro p e s m below meth c T0 X0 hx hby hml hret hlk hown hnm hZ e0
  have N0 := Fr.nil n0
  rw [show entryFrame m #[(.ref o)] 1 = (mkF m 0 #[.val (.ref o)] []) from by first | rfl | simp [entryFrame, mkF, argsToLocals, Value.category]]
  refine own_Go.of (S' := (T0.setTop (mkF m 1 #[.val (.ref o)] [(.ref o)]))) (fun t kt => ?_) ?_
  · show Steps p.tables e below (T0.setTop (mkF m 0 #[.val (.ref o)] [])) _
    refine XS.aloadN X0.here hx rfl (hb hby d6_0) rfl rfl ?_
    exact kt
  obtain ⟨T30, X30, e30, st30⟩ := getF X0 hx hZ hown (host := "") (Or.inl (hw _ (List.mem_of_getElem? (i := 25) rfl))) Via.refl e0 pr1 (g := (mkF m 1 #[.val (.ref o)] [(.ref o)])) rfl rfl (hb hby d6_1)
  refine own_Go.of (S' := (T30.setTop (mkF m 4 #[.val (.ref o)] [(.int (Int32.ofNat a))]))) st30 ?_
  by_cases hc4_31 : a = 0
  · skip
    refine own_Go.of (S' := (T30.setTop (mkF m 8 #[.val (.ref o)] [(.ref o)]))) (fun t kt => ?_) ?_
    · show Steps p.tables e below (T30.setTop (mkF m 4 #[.val (.ref o)] [(.int (Int32.ofNat a))])) _
      refine XS.ifNo X30.here hx rfl (hb hby d6_4) rfl ((if0 _ _).trans (teq (own_eqN' hc4_31)).2) ?_
      show Steps p.tables e below (T30.setTop (mkF m 7 #[.val (.ref o)] [])) _
      refine XS.aloadN X30.here hx rfl (hb hby d6_7) rfl rfl ?_
      exact kt
    obtain ⟨T32, X32, e32, st32⟩ := getF X30 hx hZ hown (host := "") (Or.inl (hw _ (List.mem_of_getElem? (i := 27) rfl))) Via.refl e30 pr2 (g := (mkF m 8 #[.val (.ref o)] [(.ref o)])) rfl rfl (hb hby d6_8)
    refine own_Go.of (S' := (T32.setTop (mkF m 11 #[.val (.ref o)] [(.int (Int32.ofNat b))]))) st32 ?_
    refine own_Go.of (S' := (T32.setTop (mkF m 12 #[.val (.ref o)] [(.ref o), (.int (Int32.ofNat b))]))) (fun t kt => ?_) ?_
    · show Steps p.tables e below (T32.setTop (mkF m 11 #[.val (.ref o)] [(.int (Int32.ofNat b))])) _
      refine XS.aloadN X32.here hx rfl (hb hby d6_11) rfl rfl ?_
      exact kt
    obtain ⟨T33, X33, e33, st33⟩ := getF X32 hx hZ hown (host := "") (Or.inl (hw _ (List.mem_of_getElem? (i := 23) rfl))) Via.refl e32 pr0 (g := (mkF m 12 #[.val (.ref o)] [(.ref o), (.int (Int32.ofNat b))])) rfl rfl (hb hby d6_12)
    refine own_Go.of (S' := (T33.setTop (mkF m 15 #[.val (.ref o)] [(.ref r), (.int (Int32.ofNat b))]))) st33 ?_
    obtain ⟨cl34, Ar34, hln34⟩ := own_Ar.len pr3
    refine own_Go.of (S' := (T33.setTop (mkF m 16 #[.val (.ref o)] [(.int (Int32.ofNat n)), (.int (Int32.ofNat b))]))) (fun t kt => ?_) ?_
    · show Steps p.tables e below (T33.setTop (mkF m 15 #[.val (.ref o)] [(.ref r), (.int (Int32.ofNat b))])) _
      refine X33.arraylength hx (by rw [e33]; exact Ar34.1) (State.isArrayOf_alike hZ.alike Ar34.2.1) (g := (mkF m 15 #[.val (.ref o)] [(.ref r), (.int (Int32.ofNat b))])) rfl rfl (hb hby d6_15) _ ?_
      rw [hln34]
      exact kt
    by_cases hc16_35 : b = n
    · skip
      refine own_Go.of (S' := (T33.setTop (mkF m 24 #[.val (.ref o)] [(.int (1 : Int32))]))) (fun t kt => ?_) ?_
      · show Steps p.tables e below (T33.setTop (mkF m 16 #[.val (.ref o)] [(.int (Int32.ofNat n)), (.int (Int32.ofNat b))])) _
        refine XS.icmpNo X33.here hx rfl (hb hby d6_16) rfl (teq (own_eqN' hc16_35)).2 ?_
        show Steps p.tables e below (T33.setTop (mkF m 19 #[.val (.ref o)] [])) _
        refine XS.iconst X33.here hx rfl (hb hby d6_19) ?_
        show Steps p.tables e below (T33.setTop (mkF m 20 #[.val (.ref o)] [(.int (1 : Int32))])) _
        refine XS.goto X33.here hx rfl (pc0 := 20) (pc' := 24) rfl (hb hby d6_20) (by decide) (by decide) ?_
        exact kt
      exact own_retN X33 hx hlk (t := .boolean) hret (by simp) (hb hby d6_24) e33 ⟨by rw [if_pos ⟨hc4_31, hc16_35⟩]; rfl, N0, rfl⟩ (by decide) (by decide)
    · skip
      refine own_Go.of (S' := (T33.setTop (mkF m 24 #[.val (.ref o)] [(.int (0 : Int32))]))) (fun t kt => ?_) ?_
      · show Steps p.tables e below (T33.setTop (mkF m 16 #[.val (.ref o)] [(.int (Int32.ofNat n)), (.int (Int32.ofNat b))])) _
        refine XS.icmpYes X33.here hx rfl (pc0 := 16) (pc' := 23) rfl (hb hby d6_16) rfl (feq (fun q => hc16_35 ((own_eqN (by omega) (by omega)).mp q))).2 (by decide) (by decide) ?_
        show Steps p.tables e below (T33.setTop (mkF m 23 #[.val (.ref o)] [])) _
        refine XS.iconst X33.here hx rfl (hb hby d6_23) ?_
        exact kt
      exact own_retN X33 hx hlk (t := .boolean) hret (by simp) (hb hby d6_24) e33 ⟨by rw [if_neg (fun q => hc16_35 q.2)]; rfl, N0, rfl⟩ (by decide) (by decide)
  · skip
    refine own_Go.of (S' := (T30.setTop (mkF m 24 #[.val (.ref o)] [(.int (0 : Int32))]))) (fun t kt => ?_) ?_
    · show Steps p.tables e below (T30.setTop (mkF m 4 #[.val (.ref o)] [(.int (Int32.ofNat a))])) _
      refine XS.ifYes X30.here hx rfl (pc0 := 4) (pc' := 23) rfl (hb hby d6_4) rfl ((if0 _ _).trans (feq (fun q => hc4_31 ((own_eqN (by omega) (by omega)).mp q))).2) (by decide) (by decide) ?_
      show Steps p.tables e below (T30.setTop (mkF m 23 #[.val (.ref o)] [])) _
      refine XS.iconst X30.here hx rfl (hb hby d6_23) ?_
      exact kt
    exact own_retN X30 hx hlk (t := .boolean) hret (by simp) (hb hby d6_24) e30 ⟨by rw [if_neg (fun q => hc4_31 q.1)]; rfl, N0, rfl⟩ (by decide) (by decide)
theorem pn_0 : plainName "com/example/gridwire/gridwire/store/ByteSpanIsWholeArrayPinLaw" = true := by first | (simp [plainName, overriddenIn]; done) | decide +kernel
def Q_rm0 (Z : State) (p0 : Int32) (p1 : Int32) (p2 : Int32) (p3 : Int32) (h0 : Heap) (n0 : Nat) (v : Option Value) (h : Heap) (L : List Loc) : Prop := v = some (.int (1 : Int32)) ∧ Fr n0 L
theorem pd_3 : parseMethodDescriptor "([BII)V" = some ⟨[(.array .byte), .int, .int], none⟩ := by decide +kernel
theorem pd_4 : parseMethodDescriptor "()Z" = some ⟨[], some .boolean⟩ := by decide +kernel
set_option maxRecDepth 65536 in
set_option maxHeartbeats 40000000 in
theorem rm0 (l : Launch) (Z : State) (a0 : Array Value) (hw : ∀ d ∈ tables_1, d.before a0 Z = true) (ws : List Jvm.Cond) (p0 : Int32) (p1 : Int32) (p2 : Int32) (p3 : Int32) (h0 : Heap) (n0 : Nat) (Z0 : n0 ≤ h0.size)  :
    own_Met l Z h0 x code maxLocals ret ws room_1 #[(.int p0), (.int p1), (.int p2), (.int p3)] (Q_rm0 Z p0 p1 p2 p3 h0 n0) := by
  refine own_enter (plainFor_of_name pn_0) ?_
  intro p e s m below meth c T0 X0 hx hby hml hret hlk hown hnm hZ e0
  have N0 := Fr.nil n0
  rw [show entryFrame m #[(.int p0), (.int p1), (.int p2), (.int p3)] maxLocals = (mkF m 0 #[.val (.int p0), .val (.int p1), .val (.int p2), .val (.int p3), .unset, .unset, .unset, .unset, .unset, .unset] []) from by first | rfl | simp [entryFrame, mkF, argsToLocals, Value.category, maxLocals]]
  obtain ⟨n, hn, en⟩ : ∃ n : Nat, n ≤ 7 ∧ (p0 &&& (7 : Int32)) = Int32.ofNat n := own_mask p0 7
  obtain ⟨k1, hk1, ek1⟩ : ∃ n : Nat, n ≤ 2147483647 ∧ (p1 &&& (2147483647 : Int32)) = Int32.ofNat n := own_mask p1 2147483647
  obtain ⟨k2, hk2, ek2⟩ : ∃ n : Nat, n ≤ 2147483647 ∧ (p2 &&& (2147483647 : Int32)) = Int32.ofNat n := own_mask p2 2147483647
  have hm1 : k1 % (n + 1) < n + 1 := Nat.mod_lt _ (by omega)
  have hm2 : k2 % (n - k1 % (n + 1) + 1) < n - k1 % (n + 1) + 1 := Nat.mod_lt _ (by omega)
  refine own_Go.of (S' := (T0.setTop (mkF m 8 #[.val (.int p0), .val (.int p1), .val (.int p2), .val (.int p3), .val (.int (Int32.ofNat n)), .unset, .unset, .unset, .unset, .unset] [(.int (Int32.ofNat n))]))) (fun t kt => ?_) ?_
  · show Steps p.tables e below (T0.setTop (mkF m 0 #[.val (.int p0), .val (.int p1), .val (.int p2), .val (.int p3), .unset, .unset, .unset, .unset, .unset, .unset] [])) _
    refine XS.iloadN X0.here hx rfl (hb hby at_0) rfl ?_
    show Steps p.tables e below (T0.setTop (mkF m 1 #[.val (.int p0), .val (.int p1), .val (.int p2), .val (.int p3), .unset, .unset, .unset, .unset, .unset, .unset] [(.int p0)])) _
    refine XS.bipush X0.here hx rfl (hb hby at_1) ?_
    show Steps p.tables e below (T0.setTop (mkF m 3 #[.val (.int p0), .val (.int p1), .val (.int p2), .val (.int p3), .unset, .unset, .unset, .unset, .unset, .unset] [(.int (7 : Int32)), (.int p0)])) _
    refine XS.iand X0.here hx rfl (hb hby at_3) rfl ?_
    show Steps p.tables e below (T0.setTop (mkF m 4 #[.val (.int p0), .val (.int p1), .val (.int p2), .val (.int p3), .unset, .unset, .unset, .unset, .unset, .unset] [(.int (p0 &&& (7 : Int32)))])) _
    rw [en]
    show Steps p.tables e below (T0.setTop (mkF m 4 #[.val (.int p0), .val (.int p1), .val (.int p2), .val (.int p3), .unset, .unset, .unset, .unset, .unset, .unset] [(.int (Int32.ofNat n))])) _
    refine XS.istore X0.here hx rfl (hb hby at_4) rfl (l' := #[.val (.int p0), .val (.int p1), .val (.int p2), .val (.int p3), .val (.int (Int32.ofNat n)), .unset, .unset, .unset, .unset, .unset]) rfl ?_
    show Steps p.tables e below (T0.setTop (mkF m 6 #[.val (.int p0), .val (.int p1), .val (.int p2), .val (.int p3), .val (.int (Int32.ofNat n)), .unset, .unset, .unset, .unset, .unset] [])) _
    refine XS.iload X0.here hx rfl (hb hby at_6) rfl ?_
    exact kt
  obtain ⟨T36, h36, X36, e36, E36, A36, st36⟩ := own_newP X0 hx hZ (hw _ (List.mem_of_getElem? (i := 0) rfl)) e0 (g := (mkF m 8 #[.val (.int p0), .val (.int p1), .val (.int p2), .val (.int p3), .val (.int (Int32.ofNat n)), .unset, .unset, .unset, .unset, .unset] [(.int (Int32.ofNat n))])) rfl (hb hby at_8) rfl (n := n) (cap := 7) rfl hn (by decide) (by decide) (by decide)
  obtain ⟨b36, g36⟩ : ∃ z, z = h0.size := ⟨_, rfl⟩
  rw [← g36] at A36 st36
  have gx36 : n0 ≤ b36 := Nat.le_trans Z0 (Nat.le_of_eq g36.symm)
  refine own_Go.of (S' := (T36.setTop (mkF m 10 #[.val (.int p0), .val (.int p1), .val (.int p2), .val (.int p3), .val (.int (Int32.ofNat n)), .unset, .unset, .unset, .unset, .unset] [(.ref b36)]))) st36 ?_
  have z37 : n0 ≤ h36.size := Nat.le_trans Z0 E36.1
  have f38 : own_Ar Z h36 b36 .byte n (own_I (fun _ => (0 : Int32))) := A36
  refine own_Go.of (S' := (T36.setTop (mkF m 15 #[.val (.int p0), .val (.int p1), .val (.int p2), .val (.int p3), .val (.int (Int32.ofNat n)), .val (.ref b36), .unset, .unset, .unset, .unset] [(.int (p3 &&& (1 : Int32)))]))) (fun t kt => ?_) ?_
  · show Steps p.tables e below (T36.setTop (mkF m 10 #[.val (.int p0), .val (.int p1), .val (.int p2), .val (.int p3), .val (.int (Int32.ofNat n)), .unset, .unset, .unset, .unset, .unset] [(.ref b36)])) _
    refine XS.astore X36.here hx rfl (hb hby at_10) rfl rfl (l' := #[.val (.int p0), .val (.int p1), .val (.int p2), .val (.int p3), .val (.int (Int32.ofNat n)), .val (.ref b36), .unset, .unset, .unset, .unset]) rfl ?_
    show Steps p.tables e below (T36.setTop (mkF m 12 #[.val (.int p0), .val (.int p1), .val (.int p2), .val (.int p3), .val (.int (Int32.ofNat n)), .val (.ref b36), .unset, .unset, .unset, .unset] [])) _
    refine XS.iloadN X36.here hx rfl (hb hby at_12) rfl ?_
    show Steps p.tables e below (T36.setTop (mkF m 13 #[.val (.int p0), .val (.int p1), .val (.int p2), .val (.int p3), .val (.int (Int32.ofNat n)), .val (.ref b36), .unset, .unset, .unset, .unset] [(.int p3)])) _
    refine XS.iconst X36.here hx rfl (hb hby at_13) ?_
    show Steps p.tables e below (T36.setTop (mkF m 14 #[.val (.int p0), .val (.int p1), .val (.int p2), .val (.int p3), .val (.int (Int32.ofNat n)), .val (.ref b36), .unset, .unset, .unset, .unset] [(.int (1 : Int32)), (.int p3)])) _
    refine XS.iand X36.here hx rfl (hb hby at_14) rfl ?_
    exact kt
  obtain ⟨v40, v41, hd43, st42⟩ : ∃ v40 : Int32, ∃ v41 : Int32, ((v40 = (Int32.ofNat (k1 % (n + 1))) ∧ v41 = (Int32.ofNat (k1 % (n + 1) + k2 % (n - k1 % (n + 1) + 1))) ∧ (p3 &&& (1 : Int32)) = (0 : Int32)) ∨ (v40 = (0 : Int32) ∧ v41 = (Int32.ofNat n) ∧ ¬ ((p3 &&& (1 : Int32)) = (0 : Int32)))) ∧ ∀ t, Steps p.tables e below (T36.setTop (mkF m 56 #[.val (.int p0), .val (.int p1), .val (.int p2), .val (.int p3), .val (.int (Int32.ofNat n)), .val (.ref b36), .val (.int v40), .val (.int v41), .unset, .unset] [])) t → Steps p.tables e below (T36.setTop (mkF m 15 #[.val (.int p0), .val (.int p1), .val (.int p2), .val (.int p3), .val (.int (Int32.ofNat n)), .val (.ref b36), .unset, .unset, .unset, .unset] [(.int (p3 &&& (1 : Int32)))])) t := by
    by_cases hc15_39 : (p3 &&& (1 : Int32)) = (0 : Int32)
    · skip
      refine ⟨(Int32.ofNat (k1 % (n + 1))), (Int32.ofNat (k1 % (n + 1) + k2 % (n - k1 % (n + 1) + 1))), (Or.inl (⟨rfl, rfl, hc15_39⟩)), fun t kt => ?_⟩
      show Steps p.tables e below (T36.setTop (mkF m 15 #[.val (.int p0), .val (.int p1), .val (.int p2), .val (.int p3), .val (.int (Int32.ofNat n)), .val (.ref b36), .unset, .unset, .unset, .unset] [(.int (p3 &&& (1 : Int32)))])) _
      refine XS.ifYes X36.here hx rfl (pc0 := 15) (pc' := 28) rfl (hb hby at_15) rfl ((if0 _ _).trans (teq hc15_39).1) (by decide) (by decide) ?_
      show Steps p.tables e below (T36.setTop (mkF m 28 #[.val (.int p0), .val (.int p1), .val (.int p2), .val (.int p3), .val (.int (Int32.ofNat n)), .val (.ref b36), .unset, .unset, .unset, .unset] [])) _
      refine XS.iloadN X36.here hx rfl (hb hby at_28) rfl ?_
      show Steps p.tables e below (T36.setTop (mkF m 29 #[.val (.int p0), .val (.int p1), .val (.int p2), .val (.int p3), .val (.int (Int32.ofNat n)), .val (.ref b36), .unset, .unset, .unset, .unset] [(.int p1)])) _
      refine X36.ldcInt hx hown (mvT hZ (hw _ (List.mem_of_getElem? (i := 34) rfl))) (g := (mkF m 29 #[.val (.int p0), .val (.int p1), .val (.int p2), .val (.int p3), .val (.int (Int32.ofNat n)), .val (.ref b36), .unset, .unset, .unset, .unset] [(.int p1)])) rfl (hb hby at_29) _ ?_
      show Steps p.tables e below (T36.setTop (mkF m 31 #[.val (.int p0), .val (.int p1), .val (.int p2), .val (.int p3), .val (.int (Int32.ofNat n)), .val (.ref b36), .unset, .unset, .unset, .unset] [(.int (2147483647 : Int32)), (.int p1)])) _
      refine XS.iand X36.here hx rfl (hb hby at_31) rfl ?_
      show Steps p.tables e below (T36.setTop (mkF m 32 #[.val (.int p0), .val (.int p1), .val (.int p2), .val (.int p3), .val (.int (Int32.ofNat n)), .val (.ref b36), .unset, .unset, .unset, .unset] [(.int (p1 &&& (2147483647 : Int32)))])) _
      rw [ek1]
      show Steps p.tables e below (T36.setTop (mkF m 32 #[.val (.int p0), .val (.int p1), .val (.int p2), .val (.int p3), .val (.int (Int32.ofNat n)), .val (.ref b36), .unset, .unset, .unset, .unset] [(.int (Int32.ofNat k1))])) _
      refine XS.iload X36.here hx rfl (hb hby at_32) rfl ?_
      show Steps p.tables e below (T36.setTop (mkF m 34 #[.val (.int p0), .val (.int p1), .val (.int p2), .val (.int p3), .val (.int (Int32.ofNat n)), .val (.ref b36), .unset, .unset, .unset, .unset] [(.int (Int32.ofNat n)), (.int (Int32.ofNat k1))])) _
      refine XS.iconst X36.here hx rfl (hb hby at_34) ?_
      show Steps p.tables e below (T36.setTop (mkF m 35 #[.val (.int p0), .val (.int p1), .val (.int p2), .val (.int p3), .val (.int (Int32.ofNat n)), .val (.ref b36), .unset, .unset, .unset, .unset] [(.int (1 : Int32)), (.int (Int32.ofNat n)), (.int (Int32.ofNat k1))])) _
      refine XS.iadd X36.here hx rfl (hb hby at_35) rfl ?_
      show Steps p.tables e below (T36.setTop (mkF m 36 #[.val (.int p0), .val (.int p1), .val (.int p2), .val (.int p3), .val (.int (Int32.ofNat n)), .val (.ref b36), .unset, .unset, .unset, .unset] [(.int ((Int32.ofNat n) + (1 : Int32))), (.int (Int32.ofNat k1))])) _
      rw [show Int32.ofNat n + (1 : Int32) = Int32.ofNat (n + 1) from own_addN n 1]
      show Steps p.tables e below (T36.setTop (mkF m 36 #[.val (.int p0), .val (.int p1), .val (.int p2), .val (.int p3), .val (.int (Int32.ofNat n)), .val (.ref b36), .unset, .unset, .unset, .unset] [(.int (Int32.ofNat (n + 1))), (.int (Int32.ofNat k1))])) _
      refine XS.irem X36.here hx rfl (hb hby at_36) rfl (own_nzN (by omega) (by omega)) ?_
      show Steps p.tables e below (T36.setTop (mkF m 37 #[.val (.int p0), .val (.int p1), .val (.int p2), .val (.int p3), .val (.int (Int32.ofNat n)), .val (.ref b36), .unset, .unset, .unset, .unset] [(.int ((Int32.ofNat k1) - ((Int32.ofNat k1) / (Int32.ofNat (n + 1))) * (Int32.ofNat (n + 1))))])) _
      rw [own_remN (a := k1) (b := n + 1) (by omega) (by omega)]
      show Steps p.tables e below (T36.setTop (mkF m 37 #[.val (.int p0), .val (.int p1), .val (.int p2), .val (.int p3), .val (.int (Int32.ofNat n)), .val (.ref b36), .unset, .unset, .unset, .unset] [(.int (Int32.ofNat (k1 % (n + 1))))])) _
      refine XS.istore X36.here hx rfl (hb hby at_37) rfl (l' := #[.val (.int p0), .val (.int p1), .val (.int p2), .val (.int p3), .val (.int (Int32.ofNat n)), .val (.ref b36), .val (.int (Int32.ofNat (k1 % (n + 1)))), .unset, .unset, .unset]) rfl ?_
      show Steps p.tables e below (T36.setTop (mkF m 39 #[.val (.int p0), .val (.int p1), .val (.int p2), .val (.int p3), .val (.int (Int32.ofNat n)), .val (.ref b36), .val (.int (Int32.ofNat (k1 % (n + 1)))), .unset, .unset, .unset] [])) _
      refine XS.iload X36.here hx rfl (hb hby at_39) rfl ?_
      show Steps p.tables e below (T36.setTop (mkF m 41 #[.val (.int p0), .val (.int p1), .val (.int p2), .val (.int p3), .val (.int (Int32.ofNat n)), .val (.ref b36), .val (.int (Int32.ofNat (k1 % (n + 1)))), .unset, .unset, .unset] [(.int (Int32.ofNat (k1 % (n + 1))))])) _
      refine XS.iloadN X36.here hx rfl (hb hby at_41) rfl ?_
      show Steps p.tables e below (T36.setTop (mkF m 42 #[.val (.int p0), .val (.int p1), .val (.int p2), .val (.int p3), .val (.int (Int32.ofNat n)), .val (.ref b36), .val (.int (Int32.ofNat (k1 % (n + 1)))), .unset, .unset, .unset] [(.int p2), (.int (Int32.ofNat (k1 % (n + 1))))])) _
      refine X36.ldcInt hx hown (mvT hZ (hw _ (List.mem_of_getElem? (i := 34) rfl))) (g := (mkF m 42 #[.val (.int p0), .val (.int p1), .val (.int p2), .val (.int p3), .val (.int (Int32.ofNat n)), .val (.ref b36), .val (.int (Int32.ofNat (k1 % (n + 1)))), .unset, .unset, .unset] [(.int p2), (.int (Int32.ofNat (k1 % (n + 1))))])) rfl (hb hby at_42) _ ?_
      show Steps p.tables e below (T36.setTop (mkF m 44 #[.val (.int p0), .val (.int p1), .val (.int p2), .val (.int p3), .val (.int (Int32.ofNat n)), .val (.ref b36), .val (.int (Int32.ofNat (k1 % (n + 1)))), .unset, .unset, .unset] [(.int (2147483647 : Int32)), (.int p2), (.int (Int32.ofNat (k1 % (n + 1))))])) _
      refine XS.iand X36.here hx rfl (hb hby at_44) rfl ?_
      show Steps p.tables e below (T36.setTop (mkF m 45 #[.val (.int p0), .val (.int p1), .val (.int p2), .val (.int p3), .val (.int (Int32.ofNat n)), .val (.ref b36), .val (.int (Int32.ofNat (k1 % (n + 1)))), .unset, .unset, .unset] [(.int (p2 &&& (2147483647 : Int32))), (.int (Int32.ofNat (k1 % (n + 1))))])) _
      rw [ek2]
      show Steps p.tables e below (T36.setTop (mkF m 45 #[.val (.int p0), .val (.int p1), .val (.int p2), .val (.int p3), .val (.int (Int32.ofNat n)), .val (.ref b36), .val (.int (Int32.ofNat (k1 % (n + 1)))), .unset, .unset, .unset] [(.int (Int32.ofNat k2)), (.int (Int32.ofNat (k1 % (n + 1))))])) _
      refine XS.iload X36.here hx rfl (hb hby at_45) rfl ?_
      show Steps p.tables e below (T36.setTop (mkF m 47 #[.val (.int p0), .val (.int p1), .val (.int p2), .val (.int p3), .val (.int (Int32.ofNat n)), .val (.ref b36), .val (.int (Int32.ofNat (k1 % (n + 1)))), .unset, .unset, .unset] [(.int (Int32.ofNat n)), (.int (Int32.ofNat k2)), (.int (Int32.ofNat (k1 % (n + 1))))])) _
      refine XS.iload X36.here hx rfl (hb hby at_47) rfl ?_
      show Steps p.tables e below (T36.setTop (mkF m 49 #[.val (.int p0), .val (.int p1), .val (.int p2), .val (.int p3), .val (.int (Int32.ofNat n)), .val (.ref b36), .val (.int (Int32.ofNat (k1 % (n + 1)))), .unset, .unset, .unset] [(.int (Int32.ofNat (k1 % (n + 1)))), (.int (Int32.ofNat n)), (.int (Int32.ofNat k2)), (.int (Int32.ofNat (k1 % (n + 1))))])) _
      refine XS.isub X36.here hx rfl (hb hby at_49) rfl ?_
      show Steps p.tables e below (T36.setTop (mkF m 50 #[.val (.int p0), .val (.int p1), .val (.int p2), .val (.int p3), .val (.int (Int32.ofNat n)), .val (.ref b36), .val (.int (Int32.ofNat (k1 % (n + 1)))), .unset, .unset, .unset] [(.int ((Int32.ofNat n) - (Int32.ofNat (k1 % (n + 1))))), (.int (Int32.ofNat k2)), (.int (Int32.ofNat (k1 % (n + 1))))])) _
      rw [own_subN (a := n) (b := k1 % (n + 1)) (by omega)]
      show Steps p.tables e below (T36.setTop (mkF m 50 #[.val (.int p0), .val (.int p1), .val (.int p2), .val (.int p3), .val (.int (Int32.ofNat n)), .val (.ref b36), .val (.int (Int32.ofNat (k1 % (n + 1)))), .unset, .unset, .unset] [(.int (Int32.ofNat (n - k1 % (n + 1)))), (.int (Int32.ofNat k2)), (.int (Int32.ofNat (k1 % (n + 1))))])) _
      refine XS.iconst X36.here hx rfl (hb hby at_50) ?_
      show Steps p.tables e below (T36.setTop (mkF m 51 #[.val (.int p0), .val (.int p1), .val (.int p2), .val (.int p3), .val (.int (Int32.ofNat n)), .val (.ref b36), .val (.int (Int32.ofNat (k1 % (n + 1)))), .unset, .unset, .unset] [(.int (1 : Int32)), (.int (Int32.ofNat (n - k1 % (n + 1)))), (.int (Int32.ofNat k2)), (.int (Int32.ofNat (k1 % (n + 1))))])) _
      refine XS.iadd X36.here hx rfl (hb hby at_51) rfl ?_
      show Steps p.tables e below (T36.setTop (mkF m 52 #[.val (.int p0), .val (.int p1), .val (.int p2), .val (.int p3), .val (.int (Int32.ofNat n)), .val (.ref b36), .val (.int (Int32.ofNat (k1 % (n + 1)))), .unset, .unset, .unset] [(.int ((Int32.ofNat (n - k1 % (n + 1))) + (1 : Int32))), (.int (Int32.ofNat k2)), (.int (Int32.ofNat (k1 % (n + 1))))])) _
      rw [show Int32.ofNat (n - k1 % (n + 1)) + (1 : Int32) = Int32.ofNat (n - k1 % (n + 1) + 1) from own_addN _ 1]
      show Steps p.tables e below (T36.setTop (mkF m 52 #[.val (.int p0), .val (.int p1), .val (.int p2), .val (.int p3), .val (.int (Int32.ofNat n)), .val (.ref b36), .val (.int (Int32.ofNat (k1 % (n + 1)))), .unset, .unset, .unset] [(.int (Int32.ofNat (n - k1 % (n + 1) + 1))), (.int (Int32.ofNat k2)), (.int (Int32.ofNat (k1 % (n + 1))))])) _
      refine XS.irem X36.here hx rfl (hb hby at_52) rfl (own_nzN (by omega) (by omega)) ?_
      show Steps p.tables e below (T36.setTop (mkF m 53 #[.val (.int p0), .val (.int p1), .val (.int p2), .val (.int p3), .val (.int (Int32.ofNat n)), .val (.ref b36), .val (.int (Int32.ofNat (k1 % (n + 1)))), .unset, .unset, .unset] [(.int ((Int32.ofNat k2) - ((Int32.ofNat k2) / (Int32.ofNat (n - k1 % (n + 1) + 1))) * (Int32.ofNat (n - k1 % (n + 1) + 1)))), (.int (Int32.ofNat (k1 % (n + 1))))])) _
      rw [own_remN (a := k2) (b := n - k1 % (n + 1) + 1) (by omega) (by omega)]
      show Steps p.tables e below (T36.setTop (mkF m 53 #[.val (.int p0), .val (.int p1), .val (.int p2), .val (.int p3), .val (.int (Int32.ofNat n)), .val (.ref b36), .val (.int (Int32.ofNat (k1 % (n + 1)))), .unset, .unset, .unset] [(.int (Int32.ofNat (k2 % (n - k1 % (n + 1) + 1)))), (.int (Int32.ofNat (k1 % (n + 1))))])) _
      refine XS.iadd X36.here hx rfl (hb hby at_53) rfl ?_
      show Steps p.tables e below (T36.setTop (mkF m 54 #[.val (.int p0), .val (.int p1), .val (.int p2), .val (.int p3), .val (.int (Int32.ofNat n)), .val (.ref b36), .val (.int (Int32.ofNat (k1 % (n + 1)))), .unset, .unset, .unset] [(.int ((Int32.ofNat (k1 % (n + 1))) + (Int32.ofNat (k2 % (n - k1 % (n + 1) + 1)))))])) _
      rw [own_addN (k1 % (n + 1)) (k2 % (n - k1 % (n + 1) + 1))]
      show Steps p.tables e below (T36.setTop (mkF m 54 #[.val (.int p0), .val (.int p1), .val (.int p2), .val (.int p3), .val (.int (Int32.ofNat n)), .val (.ref b36), .val (.int (Int32.ofNat (k1 % (n + 1)))), .unset, .unset, .unset] [(.int (Int32.ofNat (k1 % (n + 1) + k2 % (n - k1 % (n + 1) + 1))))])) _
      refine XS.istore X36.here hx rfl (hb hby at_54) rfl (l' := #[.val (.int p0), .val (.int p1), .val (.int p2), .val (.int p3), .val (.int (Int32.ofNat n)), .val (.ref b36), .val (.int (Int32.ofNat (k1 % (n + 1)))), .val (.int (Int32.ofNat (k1 % (n + 1) + k2 % (n - k1 % (n + 1) + 1)))), .unset, .unset]) rfl ?_
      exact kt
    · skip
      refine ⟨(0 : Int32), (Int32.ofNat n), (Or.inr (⟨rfl, rfl, hc15_39⟩)), fun t kt => ?_⟩
      show Steps p.tables e below (T36.setTop (mkF m 15 #[.val (.int p0), .val (.int p1), .val (.int p2), .val (.int p3), .val (.int (Int32.ofNat n)), .val (.ref b36), .unset, .unset, .unset, .unset] [(.int (p3 &&& (1 : Int32)))])) _
      refine XS.ifNo X36.here hx rfl (hb hby at_15) rfl ((if0 _ _).trans (feq hc15_39).1) ?_
      show Steps p.tables e below (T36.setTop (mkF m 18 #[.val (.int p0), .val (.int p1), .val (.int p2), .val (.int p3), .val (.int (Int32.ofNat n)), .val (.ref b36), .unset, .unset, .unset, .unset] [])) _
      refine XS.iconst X36.here hx rfl (hb hby at_18) ?_
      show Steps p.tables e below (T36.setTop (mkF m 19 #[.val (.int p0), .val (.int p1), .val (.int p2), .val (.int p3), .val (.int (Int32.ofNat n)), .val (.ref b36), .unset, .unset, .unset, .unset] [(.int (0 : Int32))])) _
      refine XS.istore X36.here hx rfl (hb hby at_19) rfl (l' := #[.val (.int p0), .val (.int p1), .val (.int p2), .val (.int p3), .val (.int (Int32.ofNat n)), .val (.ref b36), .val (.int (0 : Int32)), .unset, .unset, .unset]) rfl ?_
      show Steps p.tables e below (T36.setTop (mkF m 21 #[.val (.int p0), .val (.int p1), .val (.int p2), .val (.int p3), .val (.int (Int32.ofNat n)), .val (.ref b36), .val (.int (0 : Int32)), .unset, .unset, .unset] [])) _
      refine XS.iload X36.here hx rfl (hb hby at_21) rfl ?_
      show Steps p.tables e below (T36.setTop (mkF m 23 #[.val (.int p0), .val (.int p1), .val (.int p2), .val (.int p3), .val (.int (Int32.ofNat n)), .val (.ref b36), .val (.int (0 : Int32)), .unset, .unset, .unset] [(.int (Int32.ofNat n))])) _
      refine XS.istore X36.here hx rfl (hb hby at_23) rfl (l' := #[.val (.int p0), .val (.int p1), .val (.int p2), .val (.int p3), .val (.int (Int32.ofNat n)), .val (.ref b36), .val (.int (0 : Int32)), .val (.int (Int32.ofNat n)), .unset, .unset]) rfl ?_
      show Steps p.tables e below (T36.setTop (mkF m 25 #[.val (.int p0), .val (.int p1), .val (.int p2), .val (.int p3), .val (.int (Int32.ofNat n)), .val (.ref b36), .val (.int (0 : Int32)), .val (.int (Int32.ofNat n)), .unset, .unset] [])) _
      refine XS.goto X36.here hx rfl (pc0 := 25) (pc' := 56) rfl (hb hby at_25) (by decide) (by decide) ?_
      exact kt
  refine own_Go.of (S' := (T36.setTop (mkF m 56 #[.val (.int p0), .val (.int p1), .val (.int p2), .val (.int p3), .val (.int (Int32.ofNat n)), .val (.ref b36), .val (.int v40), .val (.int v41), .unset, .unset] []))) st42 ?_
  obtain ⟨a, b, hab, hbn, rfl, rfl⟩ : ∃ a b : Nat, a ≤ b ∧ b ≤ n ∧ v40 = Int32.ofNat a ∧ v41 = Int32.ofNat b := by
    rcases hd43 with ⟨q1, q2, -⟩ | ⟨q1, q2, -⟩
    all_goals first | exact ⟨_, _, by omega, by omega, q1, q2⟩ | exact ⟨0, _, by omega, by omega, q1, q2⟩
  obtain ⟨T44, h44, X44, e44, E44, A44, D44, -, st44⟩ := newO X36 hx hZ hown (hw _ (List.mem_of_getElem? (i := 1) rfl)) (hw _ (List.mem_of_getElem? (i := 2) rfl)) (hw _ (List.mem_of_getElem? (i := 3) rfl)) e36 (g := (mkF m 56 #[.val (.int p0), .val (.int p1), .val (.int p2), .val (.int p3), .val (.int (Int32.ofNat n)), .val (.ref b36), .val (.int (Int32.ofNat a)), .val (.int (Int32.ofNat b)), .unset, .unset] [])) rfl (hb hby at_56) (by decide) (by decide)
  obtain ⟨b44, g44⟩ : ∃ z, z = h36.size := ⟨_, rfl⟩
  rw [← g44] at A44 D44 st44
  have gx44 : n0 ≤ b44 := Nat.le_trans z37 (Nat.le_of_eq g44.symm)
  have ne45 : b36 ≠ b44 := Nat.ne_of_lt (Nat.lt_of_lt_of_le f38.lt (Nat.le_of_eq g44.symm))
  refine own_Go.of (S' := (T44.setTop (mkF m 59 #[.val (.int p0), .val (.int p1), .val (.int p2), .val (.int p3), .val (.int (Int32.ofNat n)), .val (.ref b36), .val (.int (Int32.ofNat a)), .val (.int (Int32.ofNat b)), .unset, .unset] [(.ref b44)]))) st44 ?_
  have f46 : own_Ar Z h44 b36 .byte n (own_I (fun _ => (0 : Int32))) := f38.ext E44
  have z47 : n0 ≤ h44.size := Nat.le_trans z37 E44.1
  have f48 : Fld Z h44 b44 "com/example/gridwire/gridwire/store/ByteSpan" "array" "[B" .null := D44 (Or.inr (hw _ (List.mem_of_getElem? (i := 24) rfl))) (ty := (.array .byte)) (by decide)
  have f49 : Fld Z h44 b44 "com/example/gridwire/gridwire/store/ByteSpan" "from" "I" (.int (0 : Int32)) := D44 (Or.inr (hw _ (List.mem_of_getElem? (i := 26) rfl))) (ty := .int) (by decide)
  have f50 : Fld Z h44 b44 "com/example/gridwire/gridwire/store/ByteSpan" "to" "I" (.int (0 : Int32)) := D44 (Or.inr (hw _ (List.mem_of_getElem? (i := 28) rfl))) (ty := .int) (by decide)
  refine own_Go.of (S' := (T44.setTop (mkF m 66 #[.val (.int p0), .val (.int p1), .val (.int p2), .val (.int p3), .val (.int (Int32.ofNat n)), .val (.ref b36), .val (.int (Int32.ofNat a)), .val (.int (Int32.ofNat b)), .unset, .unset] [(.int (Int32.ofNat b)), (.int (Int32.ofNat a)), (.ref b36), (.ref b44), (.ref b44)]))) (fun t kt => ?_) ?_
  · show Steps p.tables e below (T44.setTop (mkF m 59 #[.val (.int p0), .val (.int p1), .val (.int p2), .val (.int p3), .val (.int (Int32.ofNat n)), .val (.ref b36), .val (.int (Int32.ofNat a)), .val (.int (Int32.ofNat b)), .unset, .unset] [(.ref b44)])) _
    refine XS.dup X44.here hx rfl (hb hby at_59) rfl rfl ?_
    show Steps p.tables e below (T44.setTop (mkF m 60 #[.val (.int p0), .val (.int p1), .val (.int p2), .val (.int p3), .val (.int (Int32.ofNat n)), .val (.ref b36), .val (.int (Int32.ofNat a)), .val (.int (Int32.ofNat b)), .unset, .unset] [(.ref b44), (.ref b44)])) _
    refine XS.aload X44.here hx rfl (hb hby at_60) rfl rfl ?_
    show Steps p.tables e below (T44.setTop (mkF m 62 #[.val (.int p0), .val (.int p1), .val (.int p2), .val (.int p3), .val (.int (Int32.ofNat n)), .val (.ref b36), .val (.int (Int32.ofNat a)), .val (.int (Int32.ofNat b)), .unset, .unset] [(.ref b36), (.ref b44), (.ref b44)])) _
    refine XS.iload X44.here hx rfl (hb hby at_62) rfl ?_
    show Steps p.tables e below (T44.setTop (mkF m 64 #[.val (.int p0), .val (.int p1), .val (.int p2), .val (.int p3), .val (.int (Int32.ofNat n)), .val (.ref b36), .val (.int (Int32.ofNat a)), .val (.int (Int32.ofNat b)), .unset, .unset] [(.int (Int32.ofNat a)), (.ref b36), (.ref b44), (.ref b44)])) _
    refine XS.iload X44.here hx rfl (hb hby at_64) rfl ?_
    exact kt
  obtain ⟨_, _, ⟨T51, L51, k51, n51⟩, -, X51, ⟨Lc51, hQ51, l51, y51, z51⟩, st51⟩ := X44.specialBack hx (y := (⟨"com/example/gridwire/gridwire/store/ByteSpan", "<init>", "([BII)V"⟩ : MethodName)) rfl hown (mvT hZ (hw _ (List.mem_of_getElem? (i := 4) rfl))) (mvT hZ (hw _ (List.mem_of_getElem? (i := 5) rfl))) (mvT hZ (hw _ (List.mem_of_getElem? (i := 6) rfl))) (by decide) (backOf (W := 1) (rm1 l Z a0 hw [] b44 b36 a b n (own_I (fun _ => (0 : Int32))) .null (.int (0 : Int32)) (.int (0 : Int32)) h44 n0 z47 A44 f48 f49 f50 f46 gx44 ne45 hab hbn (by omega)) hZ (hw _ (List.mem_of_getElem? (i := 6) rfl)) (hw _ (List.mem_of_getElem? (i := 3) rfl)) (by decide) (by decide)) (g := (mkF m 66 #[.val (.int p0), .val (.int p1), .val (.int p2), .val (.int p3), .val (.int (Int32.ofNat n)), .val (.ref b36), .val (.int (Int32.ofNat a)), .val (.int (Int32.ofNat b)), .unset, .unset] [(.int (Int32.ofNat b)), (.int (Int32.ofNat a)), (.ref b36), (.ref b44), (.ref b44)])) rfl (by rw [hml]; rfl) (Steps.refl _) (a := b44) (argsL := [(.ref b36), (.int (Int32.ofNat a)), (.int (Int32.ofNat b))]) (rest := [(.ref b44)]) (lenOf pd_3 rfl) rfl (by show 2 * 0 + _ ≤ _; exact Nat.le_of_eq rfl) (hb hby at_66) (fun _ _ => ⟨rfl, e44, (by decide : 2 + 0 ≤ _), (by decide : 10 + 0 ≤ _)⟩)
  dsimp only [Pt.U, Pt.locs, Pt.cells, Pt.slots] at X51 l51 y51 z51 st51 hQ51
  subst l51 y51 z51
  obtain ⟨rfl, N51q, K51, p51_0, p51_1, p51_2, p51_3⟩ := hQ51
  have N51 := Fr.app N0 N51q
  refine own_Go.of (S' := (T51.setTop (mkF m 69 #[.val (.int p0), .val (.int p1), .val (.int p2), .val (.int p3), .val (.int (Int32.ofNat n)), .val (.ref b36), .val (.int (Int32.ofNat a)), .val (.int (Int32.ofNat b)), .unset, .unset] [(.ref b44)]))) (fun t kt => st51.trans kt) ?_
  have f52 : own_Ar Z T51.heap b36 .byte n (own_I (fun _ => (0 : Int32))) := f46.keep K51 (ninS ne45 nin0)
  have f53 : Exa Z T51.heap b44 "com/example/gridwire/gridwire/store/ByteSpan" := A44.keep K51
  have z54 : n0 ≤ T51.heap.size := Nat.le_trans z47 K51.1
  refine own_Go.of (S' := (T51.setTop (mkF m 78 #[.val (.int p0), .val (.int p1), .val (.int p2), .val (.int p3), .val (.int (Int32.ofNat n)), .val (.ref b36), .val (.int (Int32.ofNat a)), .val (.int (Int32.ofNat b)), .val (.ref b44), .unset] [(.int (Int32.ofNat n)), (.int (Int32.ofNat (b - a)))]))) (fun t kt => ?_) ?_
  · show Steps p.tables e below (T51.setTop (mkF m 69 #[.val (.int p0), .val (.int p1), .val (.int p2), .val (.int p3), .val (.int (Int32.ofNat n)), .val (.ref b36), .val (.int (Int32.ofNat a)), .val (.int (Int32.ofNat b)), .unset, .unset] [(.ref b44)])) _
    refine XS.astore X51.here hx rfl (hb hby at_69) rfl rfl (l' := #[.val (.int p0), .val (.int p1), .val (.int p2), .val (.int p3), .val (.int (Int32.ofNat n)), .val (.ref b36), .val (.int (Int32.ofNat a)), .val (.int (Int32.ofNat b)), .val (.ref b44), .unset]) rfl ?_
    show Steps p.tables e below (T51.setTop (mkF m 71 #[.val (.int p0), .val (.int p1), .val (.int p2), .val (.int p3), .val (.int (Int32.ofNat n)), .val (.ref b36), .val (.int (Int32.ofNat a)), .val (.int (Int32.ofNat b)), .val (.ref b44), .unset] [])) _
    refine XS.iload X51.here hx rfl (hb hby at_71) rfl ?_
    show Steps p.tables e below (T51.setTop (mkF m 73 #[.val (.int p0), .val (.int p1), .val (.int p2), .val (.int p3), .val (.int (Int32.ofNat n)), .val (.ref b36), .val (.int (Int32.ofNat a)), .val (.int (Int32.ofNat b)), .val (.ref b44), .unset] [(.int (Int32.ofNat b))])) _
    refine XS.iload X51.here hx rfl (hb hby at_73) rfl ?_
    show Steps p.tables e below (T51.setTop (mkF m 75 #[.val (.int p0), .val (.int p1), .val (.int p2), .val (.int p3), .val (.int (Int32.ofNat n)), .val (.ref b36), .val (.int (Int32.ofNat a)), .val (.int (Int32.ofNat b)), .val (.ref b44), .unset] [(.int (Int32.ofNat a)), (.int (Int32.ofNat b))])) _
    refine XS.isub X51.here hx rfl (hb hby at_75) rfl ?_
    show Steps p.tables e below (T51.setTop (mkF m 76 #[.val (.int p0), .val (.int p1), .val (.int p2), .val (.int p3), .val (.int (Int32.ofNat n)), .val (.ref b36), .val (.int (Int32.ofNat a)), .val (.int (Int32.ofNat b)), .val (.ref b44), .unset] [(.int ((Int32.ofNat b) - (Int32.ofNat a)))])) _
    rw [own_subN hab]
    show Steps p.tables e below (T51.setTop (mkF m 76 #[.val (.int p0), .val (.int p1), .val (.int p2), .val (.int p3), .val (.int (Int32.ofNat n)), .val (.ref b36), .val (.int (Int32.ofNat a)), .val (.int (Int32.ofNat b)), .val (.ref b44), .unset] [(.int (Int32.ofNat (b - a)))])) _
    refine XS.iload X51.here hx rfl (hb hby at_76) rfl ?_
    exact kt
  obtain ⟨v56, hd58, st57⟩ : ∃ v56 : Int32, ((v56 = (1 : Int32) ∧ (b - a) = n) ∨ (v56 = (0 : Int32) ∧ ¬ ((b - a) = n))) ∧ ∀ t, Steps p.tables e below (T51.setTop (mkF m 86 #[.val (.int p0), .val (.int p1), .val (.int p2), .val (.int p3), .val (.int (Int32.ofNat n)), .val (.ref b36), .val (.int (Int32.ofNat a)), .val (.int (Int32.ofNat b)), .val (.ref b44), .unset] [(.int v56)])) t → Steps p.tables e below (T51.setTop (mkF m 78 #[.val (.int p0), .val (.int p1), .val (.int p2), .val (.int p3), .val (.int (Int32.ofNat n)), .val (.ref b36), .val (.int (Int32.ofNat a)), .val (.int (Int32.ofNat b)), .val (.ref b44), .unset] [(.int (Int32.ofNat n)), (.int (Int32.ofNat (b - a)))])) t := by
    by_cases hc78_55 : (b - a) = n
    · skip
      refine ⟨(1 : Int32), (Or.inl (⟨rfl, hc78_55⟩)), fun t kt => ?_⟩
      show Steps p.tables e below (T51.setTop (mkF m 78 #[.val (.int p0), .val (.int p1), .val (.int p2), .val (.int p3), .val (.int (Int32.ofNat n)), .val (.ref b36), .val (.int (Int32.ofNat a)), .val (.int (Int32.ofNat b)), .val (.ref b44), .unset] [(.int (Int32.ofNat n)), (.int (Int32.ofNat (b - a)))])) _
      refine XS.icmpNo X51.here hx rfl (hb hby at_78) rfl (teq (own_eqN' hc78_55)).2 ?_
      show Steps p.tables e below (T51.setTop (mkF m 81 #[.val (.int p0), .val (.int p1), .val (.int p2), .val (.int p3), .val (.int (Int32.ofNat n)), .val (.ref b36), .val (.int (Int32.ofNat a)), .val (.int (Int32.ofNat b)), .val (.ref b44), .unset] [])) _
      refine XS.iconst X51.here hx rfl (hb hby at_81) ?_
      show Steps p.tables e below (T51.setTop (mkF m 82 #[.val (.int p0), .val (.int p1), .val (.int p2), .val (.int p3), .val (.int (Int32.ofNat n)), .val (.ref b36), .val (.int (Int32.ofNat a)), .val (.int (Int32.ofNat b)), .val (.ref b44), .unset] [(.int (1 : Int32))])) _
      refine XS.goto X51.here hx rfl (pc0 := 82) (pc' := 86) rfl (hb hby at_82) (by decide) (by decide) ?_
      exact kt
    · skip
      refine ⟨(0 : Int32), (Or.inr (⟨rfl, hc78_55⟩)), fun t kt => ?_⟩
      show Steps p.tables e below (T51.setTop (mkF m 78 #[.val (.int p0), .val (.int p1), .val (.int p2), .val (.int p3), .val (.int (Int32.ofNat n)), .val (.ref b36), .val (.int (Int32.ofNat a)), .val (.int (Int32.ofNat b)), .val (.ref b44), .unset] [(.int (Int32.ofNat n)), (.int (Int32.ofNat (b - a)))])) _
      refine XS.icmpYes X51.here hx rfl (pc0 := 78) (pc' := 85) rfl (hb hby at_78) rfl (feq (fun q => hc78_55 ((own_eqN (by omega) (by omega)).mp q))).2 (by decide) (by decide) ?_
      show Steps p.tables e below (T51.setTop (mkF m 85 #[.val (.int p0), .val (.int p1), .val (.int p2), .val (.int p3), .val (.int (Int32.ofNat n)), .val (.ref b36), .val (.int (Int32.ofNat a)), .val (.int (Int32.ofNat b)), .val (.ref b44), .unset] [])) _
      refine XS.iconst X51.here hx rfl (hb hby at_85) ?_
      exact kt
  refine own_Go.of (S' := (T51.setTop (mkF m 86 #[.val (.int p0), .val (.int p1), .val (.int p2), .val (.int p3), .val (.int (Int32.ofNat n)), .val (.ref b36), .val (.int (Int32.ofNat a)), .val (.int (Int32.ofNat b)), .val (.ref b44), .unset] [(.int v56)]))) st57 ?_
  have hfin : (if a = 0 ∧ b = n then (1 : Int32) else 0) = v56 := by
    rcases hd58 with ⟨q1, q2⟩ | ⟨q1, q2⟩
    · rw [q1, if_pos (by omega)]
    · rw [q1, if_neg (by omega)]
  refine own_Go.of (S' := (T51.setTop (mkF m 90 #[.val (.int p0), .val (.int p1), .val (.int p2), .val (.int p3), .val (.int (Int32.ofNat n)), .val (.ref b36), .val (.int (Int32.ofNat a)), .val (.int (Int32.ofNat b)), .val (.ref b44), .val (.int v56)] [(.ref b44)]))) (fun t kt => ?_) ?_
  · show Steps p.tables e below (T51.setTop (mkF m 86 #[.val (.int p0), .val (.int p1), .val (.int p2), .val (.int p3), .val (.int (Int32.ofNat n)), .val (.ref b36), .val (.int (Int32.ofNat a)), .val (.int (Int32.ofNat b)), .val (.ref b44), .unset] [(.int v56)])) _
    refine XS.istore X51.here hx rfl (hb hby at_86) rfl (l' := #[.val (.int p0), .val (.int p1), .val (.int p2), .val (.int p3), .val (.int (Int32.ofNat n)), .val (.ref b36), .val (.int (Int32.ofNat a)), .val (.int (Int32.ofNat b)), .val (.ref b44), .val (.int v56)]) rfl ?_
    show Steps p.tables e below (T51.setTop (mkF m 88 #[.val (.int p0), .val (.int p1), .val (.int p2), .val (.int p3), .val (.int (Int32.ofNat n)), .val (.ref b36), .val (.int (Int32.ofNat a)), .val (.int (Int32.ofNat b)), .val (.ref b44), .val (.int v56)] [])) _
    refine XS.aload X51.here hx rfl (hb hby at_88) rfl rfl ?_
    exact kt
  obtain ⟨cq59, kq59, q59a, q59b, q59c⟩ := isOf hZ rfl p51_0
  obtain ⟨_, _, ⟨T59, L59, k59, n59⟩, -, X59, ⟨Lc59, hQ59, l59, y59, z59⟩, st59⟩ := X51.virtualBack hx (y := (⟨"com/example/gridwire/gridwire/store/ByteSpan", "isWholeArray", "()Z"⟩ : MethodName)) (z := (⟨"com/example/gridwire/gridwire/store/ByteSpan", "isWholeArray", "()Z"⟩ : MethodName)) hown (mvT hZ (hw _ (List.mem_of_getElem? (i := 29) rfl))) (mvT hZ (hw _ (List.mem_of_getElem? (i := 30) rfl))) (notFace_of_selects (args := #[]) (mvT hZ (hw _ (List.mem_of_getElem? (i := 32) rfl)))) (mvT hZ (hw _ (List.mem_of_getElem? (i := 32) rfl))) (mvT hZ (hw _ (List.mem_of_getElem? (i := 31) rfl))) (by decide) (backOf (W := 0) (rm6 l Z a0 hw [] b44 b36 a b n (own_I (fun _ => (0 : Int32))) T51.heap n0 z54 p51_1 p51_2 p51_3 f52 hab hbn (by omega)) hZ (hw _ (List.mem_of_getElem? (i := 33) rfl)) (hw _ (List.mem_of_getElem? (i := 3) rfl)) (by decide) (by decide)) q59a q59c (g := (mkF m 90 #[.val (.int p0), .val (.int p1), .val (.int p2), .val (.int p3), .val (.int (Int32.ofNat n)), .val (.ref b36), .val (.int (Int32.ofNat a)), .val (.int (Int32.ofNat b)), .val (.ref b44), .val (.int v56)] [(.ref b44)])) rfl (by rw [hml]; rfl) (Steps.refl _) (argsL := []) (rest := []) (lenOf pd_4 rfl) rfl (by show 2 * 0 + _ ≤ _; exact Nat.le_of_eq rfl) (hb hby at_90) (fun _ _ => ⟨rfl, rfl, (by decide : 2 + 0 ≤ _), (by decide : 10 + 0 ≤ _)⟩)
  dsimp only [Pt.U, Pt.locs, Pt.cells, Pt.slots] at X59 l59 y59 z59 st59 hQ59
  subst l59 y59 z59
  obtain ⟨rfl, N59q, hh59⟩ := hQ59
  have N59 := Fr.app N51 N59q
  refine own_Go.of (S' := (T59.setTop (mkF m 93 #[.val (.int p0), .val (.int p1), .val (.int p2), .val (.int p3), .val (.int (Int32.ofNat n)), .val (.ref b36), .val (.int (Int32.ofNat a)), .val (.int (Int32.ofNat b)), .val (.ref b44), .val (.int v56)] [(.int (if a = 0 ∧ b = n then (1 : Int32) else 0))]))) (fun t kt => st59.trans kt) ?_
  refine own_Go.of (S' := (T59.setTop (mkF m 103 #[.val (.int p0), .val (.int p1), .val (.int p2), .val (.int p3), .val (.int (Int32.ofNat n)), .val (.ref b36), .val (.int (Int32.ofNat a)), .val (.int (Int32.ofNat b)), .val (.ref b44), .val (.int v56)] [(.int (1 : Int32))]))) (fun t kt => ?_) ?_
  · show Steps p.tables e below (T59.setTop (mkF m 93 #[.val (.int p0), .val (.int p1), .val (.int p2), .val (.int p3), .val (.int (Int32.ofNat n)), .val (.ref b36), .val (.int (Int32.ofNat a)), .val (.int (Int32.ofNat b)), .val (.ref b44), .val (.int v56)] [(.int (if a = 0 ∧ b = n then (1 : Int32) else 0))])) _
    refine XS.iload X59.here hx rfl (hb hby at_93) rfl ?_
    show Steps p.tables e below (T59.setTop (mkF m 95 #[.val (.int p0), .val (.int p1), .val (.int p2), .val (.int p3), .val (.int (Int32.ofNat n)), .val (.ref b36), .val (.int (Int32.ofNat a)), .val (.int (Int32.ofNat b)), .val (.ref b44), .val (.int v56)] [(.int v56), (.int (if a = 0 ∧ b = n then (1 : Int32) else 0))])) _
    refine XS.icmpNo X59.here hx rfl (hb hby at_95) rfl (teq hfin).2 ?_
    show Steps p.tables e below (T59.setTop (mkF m 98 #[.val (.int p0), .val (.int p1), .val (.int p2), .val (.int p3), .val (.int (Int32.ofNat n)), .val (.ref b36), .val (.int (Int32.ofNat a)), .val (.int (Int32.ofNat b)), .val (.ref b44), .val (.int v56)] [])) _
    refine XS.iconst X59.here hx rfl (hb hby at_98) ?_
    show Steps p.tables e below (T59.setTop (mkF m 99 #[.val (.int p0), .val (.int p1), .val (.int p2), .val (.int p3), .val (.int (Int32.ofNat n)), .val (.ref b36), .val (.int (Int32.ofNat a)), .val (.int (Int32.ofNat b)), .val (.ref b44), .val (.int v56)] [(.int (1 : Int32))])) _
    refine XS.goto X59.here hx rfl (pc0 := 99) (pc' := 103) rfl (hb hby at_99) (by decide) (by decide) ?_
    exact kt
  exact own_retN X59 hx hlk (t := .boolean) hret (by simp) (hb hby at_103) hh59 ⟨rfl, N59⟩ (by decide) (by decide)
set_option maxRecDepth 65536 in
set_option maxHeartbeats 40000000 in
theorem comes_1 {Post : Tables → Env → Array Value → State → Outcome → State → Prop} (hpost : ∀ tb e args s v u, (limb_1_1.after args s (.returned v) u = true ∧ limb_1_2.after args s (.returned v) u = true ∧ True) → FrameEnd s (.returned v) u (Jvm.fieldLocs frame_1_writes args s ++ Jvm.arrayLocs frame_1_arrays args s ++ Jvm.staticLocs frame_1_statics s) 16 128 → Post tb e args s (.returned v) u) :
    ArmFor flags0 classFile x code maxLocals ret World_1 tables_1 room_1 Calls_1 rest_1 Pre_1 Post := by
  intro l hfl _ _ p e ha hc hk s m args below hf hA hF happ hP
  obtain ⟨hcalls, hrest, hpre⟩ := hP
  obtain ⟨-, -, -, hnamed, -, -, -, hat⟩ := (Spec.applies_iff hf).mp happ
  obtain ⟨hg, hn⟩ := and_e (Cond.before_iff.mp (show (Jvm.Cond.and given_1 narrow_1).before args s = true from hpre))
  obtain ⟨gc, gr0⟩ := and_e hg
  obtain ⟨ga0, gr1⟩ := and_e gr0
  obtain ⟨ga1, gr2⟩ := and_e gr1
  obtain ⟨ga2, gr3⟩ := and_e gr2
  obtain ⟨w0, w1, w2, w3, rfl⟩ : ∃ w0 w1 w2 w3 : Value, args = #[w0, w1, w2, w3] := by
    have hs : args.size = 4 := by simpa [Cond.value, given_1] using gc
    obtain ⟨L⟩ := args
    match L, hs with
    | [w0, w1, w2, w3], _ => exact ⟨w0, w1, w2, w3, rfl⟩
  have hw := fun d (hd : d ∈ tables_1) => atoms_spec (ws := Jvm.Cond.code x code maxLocals ret :: tables_1) hat d (List.mem_cons_of_mem _ hd)
  have hfit : Fit s := fun {y c} hc i hi => by
    obtain ⟨ha, rfl⟩ := Array.getElem?_eq_some_iff.mp hc
    have q := List.all_eq_true.mp ((Array.all_eq_true_iff_forall_mem.mp hF) _ (Array.getElem_mem ha)) i (List.mem_range.mpr hi)
    simpa [Array.getElem?_eq_getElem hi] using q
  obtain ⟨i0, ei0⟩ := is_v ga0
  obtain rfl : w0 = (.int i0) := Option.some.inj ei0
  obtain ⟨i1, ei1⟩ := is_v ga1
  obtain rfl : w1 = (.int i1) := Option.some.inj ei1
  obtain ⟨i2, ei2⟩ := is_v ga2
  obtain rfl : w2 = (.int i2) := Option.some.inj ei2
  obtain ⟨i3, ei3⟩ := is_v gr3
  obtain rfl : w3 = (.int i3) := Option.some.inj ei3
  obtain ⟨n, o, h1, h2, h3, _, L, rfl, ⟨rfl, N⟩, hq⟩ := rm0 l s _ hw tables_1 i0 i1 i2 i3 s.heap s.heap.size (Nat.le_refl _)  p e ha hc hk s m _ below hf ((Spec.applies_iff_loose hf).mp happ).1 ⟨rfl, State.Warmed39.refl s, rfl⟩ trivial
  refine ⟨n, _, h1, h2, h3, hpost _ _ _ _ _ _ ⟨Cond.after_iff.mpr rfl, Cond.after_iff.mpr (eq_i res_at (Term.int_eval (1)) rfl), trivial⟩ ⟨hq.1, hq.2.1, (hq.2.2.sift fun y hy => Or.inr (N y hy)).mono (by decide) (by decide)⟩⟩
theorem main_1_1 : Claimed_1_1 := comes_1 fun _ _ _ _ _ _ h hF => ⟨h.1, hF⟩
theorem main_1_2 : Claimed_1_2 := comes_1 fun _ _ _ _ _ _ h hF => ⟨h.2.1, hF⟩
end Jvm.Pilot.@@N@@
namespace Jvm.Pilot.@@N@@
open Jvm Jvm.ClassFile Sem Op Lib Jvm.Free Jvm.Stand Jvm.Pilot.@@N@@.Jvm.D
/-! MADE BY PROGRAM (witnessworld.py) out of the Statement's table words and the real class files: 13 classes; the members and pool entries that the words name. The judged class is class 1, her method 1. -/
namespace start1
open Jvm.ClassFile
def u (s : String) : CpInfo := .utf8 (stringToUtf16 s)
/-- a pool by its gaps: so many unusable entries, then the entry; so many at the end -/
def gap : Nat → List CpInfo → List CpInfo
  | 0, r => r
  | n + 1, r => .unusable :: gap n r
def poolList (es : List (Nat × CpInfo)) (last : Nat) : List CpInfo := es.foldr (fun e r => gap e.1 (e.2 :: r)) (gap last [])
def pool (es : List (Nat × CpInfo)) (last : Nat) : Array CpInfo := ⟨poolList es last⟩
def fileOf (pool : Array CpInfo) (this : Nat) (attrs : Array Attribute := #[]) (ms : Array MethodInfo := #[]) (fl : Nat := 33) (sup : Nat := 0) (ifs : Array Nat := #[]) (fds : Array FieldInfo := #[]) : ClassFile where
  minorVersion := 0
  majorVersion := 65
  constantPool := pool
  accessFlags := fl
  thisClass := this
  superClass := sup
  interfaces := ifs
  fields := fds
  methods := ms
  attributes := attrs
def plain (name : String) (sup : Option ClassId) : Class where
  name := name
  kind := .ordinary
  loader := none
  accessFlags := 33
  super := sup
  interfaces := #[]
  cf := none
  fields := #[]
  methods := #[]
  instanceTypes := #[]
  staticTypes := #[]
  resolved := #[]
  callSites := []
  init := .initialized
  statics := none
  mirror := none

def pool0 : Array CpInfo := pool [(5, u "<init>"), (0, u "()V"), (1, .class_ 10), (1, u "java/lang/Object")] 113

def k0c0 : Code := { maxStack := 0, maxLocals := 1, code := object_method_1_code, exceptionTable := #[], attributes := #[] }
def k0m0 : Method := { name := "<init>", desc := "()V", sig := { parameters := [], returnType := none }, accessFlags := 1, code := some k0c0 }
/-- java/lang/Object -/
def k0 : Class := { plain "java/lang/Object" none with
  accessFlags := 33
  interfaces := #[]
  cf := some (fileOf pool0 8 #[] #[{ accessFlags := 1, nameIndex := 5, descriptorIndex := 6, attributes := #[] }] 33 0 #[] #[])
  fields := #[]
  methods := #[k0m0]
  instanceTypes := #[]
  staticTypes := #[]
  resolved := Array.replicate 124 none
  statics := none }

def pool1 : Array CpInfo := pool [(2, .class_ 4), (1, u "java/lang/Object"), (0, u "<init>"), (0, u "()V"), (0, .integer 2147483647), (0, .class_ 9), (0, u "com/example/gridwire/gridwire/store/ByteSpan"), (0, .methodref 8 11), (0, .nameAndType 5 12), (0, u "([BII)V"), (0, .methodref 8 14), (0, .nameAndType 15 16), (0, u "isWholeArray"), (0, u "()Z"), (0, .class_ 18), (0, u "com/example/gridwire/gridwire/store/ByteSpanIsWholeArrayPinLaw"), (2, u "law"), (0, u "(IIII)Z")] 5

def k1m0 : Method := { name := "<init>", desc := "()V", sig := { parameters := [], returnType := none }, accessFlags := 2, code := none }
def k1c1 : Code := { maxStack := 5, maxLocals := 10, code := code, exceptionTable := #[], attributes := #[] }
def k1m1 : Method := { name := "law", desc := "(IIII)Z", sig := { parameters := [.int, .int, .int, .int], returnType := some .boolean }, accessFlags := 9, code := some k1c1 }
/-- com/example/gridwire/gridwire/store/ByteSpanIsWholeArrayPinLaw -/
def k1 : Class := { plain "com/example/gridwire/gridwire/store/ByteSpanIsWholeArrayPinLaw" (some 0) with
  accessFlags := 49
  interfaces := #[]
  cf := some (fileOf pool1 17 #[] #[{ accessFlags := 2, nameIndex := 5, descriptorIndex := 6, attributes := #[] }, { accessFlags := 9, nameIndex := 21, descriptorIndex := 22, attributes := #[] }] 49 2 #[] #[])
  fields := #[]
  methods := #[k1m0, k1m1]
  instanceTypes := #[]
  staticTypes := #[]
  resolved := Array.replicate 28 none
  statics := none }

def pool2 : Array CpInfo := pool [(1, .methodref 2 3), (0, .class_ 4), (0, .nameAndType 5 6), (0, u "java/lang/Object"), (0, u "<init>"), (0, u "()V"), (0, .class_ 8), (0, u "java/lang/Record")] 13

def k2c0 : Code := { maxStack := 1, maxLocals := 1, code := jdk_30_method_1_code, exceptionTable := #[], attributes := #[] }
def k2m0 : Method := { name := "<init>", desc := "()V", sig := { parameters := [], returnType := none }, accessFlags := 4, code := some k2c0 }
/-- java/lang/Record -/
def k2 : Class := { plain "java/lang/Record" (some 0) with
  accessFlags := 1057
  interfaces := #[]
  cf := some (fileOf pool2 7 #[] #[{ accessFlags := 4, nameIndex := 5, descriptorIndex := 6, attributes := #[] }] 1057 2 #[] #[])
  fields := #[]
  methods := #[k2m0]
  instanceTypes := #[]
  staticTypes := #[]
  resolved := Array.replicate 22 none
  statics := none }

def pool3 : Array CpInfo := pool [(1, .class_ 2), (0, u "java/lang/Comparable"), (0, .class_ 4), (0, u "java/lang/Object")] 7

/-- java/lang/Comparable -/
def k3 : Class := { plain "java/lang/Comparable" (some 0) with
  accessFlags := 1537
  interfaces := #[]
  cf := some (fileOf pool3 1 #[] #[] 1537 3 #[] #[])
  fields := #[]
  methods := #[]
  instanceTypes := #[]
  staticTypes := #[]
  resolved := Array.replicate 12 none
  statics := none }

def pool4 : Array CpInfo := pool [(1, .methodref 2 3), (0, .class_ 4), (0, .nameAndType 5 6), (0, u "java/lang/Record"), (0, u "<init>"), (0, u "()V"), (0, .methodref 8 9), (0, .class_ 10), (0, .nameAndType 11 12), (0, u "java/util/Objects"), (0, u "checkFromToIndex"), (0, u "(III)I"), (0, .fieldref 14 15), (0, .class_ 16), (0, .nameAndType 17 18), (0, u "com/example/gridwire/gridwire/store/ByteSpan"), (0, u "array"), (0, u "[B"), (0, .fieldref 14 20), (0, .nameAndType 21 22), (0, u "from"), (0, u "I"), (0, .fieldref 14 24), (0, .nameAndType 25 22), (0, u "to"), (2, u "([BII)V"), (15, .class_ 46), (1, u "com/example/gridwire/gridwire/store/ByteSpan$HashKey"), (24, .class_ 72), (0, u "java/lang/Comparable"), (5, u "isWholeArray"), (0, u "()Z")] 35

def k4c0 : Code := { maxStack := 3, maxLocals := 4, code := prog_80_method_1_code, exceptionTable := #[], attributes := #[] }
def k4m0 : Method := { name := "<init>", desc := "([BII)V", sig := { parameters := [(.array .byte), .int, .int], returnType := none }, accessFlags := 1, code := some k4c0 }
def k4c1 : Code := { maxStack := 2, maxLocals := 1, code := prog_80_method_4_code, exceptionTable := #[], attributes := #[] }
def k4m1 : Method := { name := "isWholeArray", desc := "()Z", sig := { parameters := [], returnType := some .boolean }, accessFlags := 1, code := some k4c1 }
/-- com/example/gridwire/gridwire/store/ByteSpan -/
def k4 : Class := { plain "com/example/gridwire/gridwire/store/ByteSpan" (some 2) with
  accessFlags := 49
  interfaces := #[3]
  cf := some (fileOf pool4 14 #[.nestMembers #[44]] #[{ accessFlags := 1, nameIndex := 5, descriptorIndex := 28, attributes := #[] }, { accessFlags := 1, nameIndex := 78, descriptorIndex := 79, attributes := #[] }] 49 2 #[71] #[{ accessFlags := 18, nameIndex := 17, descriptorIndex := 18, attributes := #[] }, { accessFlags := 18, nameIndex := 21, descriptorIndex := 22, attributes := #[] }, { accessFlags := 18, nameIndex := 25, descriptorIndex := 22, attributes := #[] }])
  fields := #[{ name := "array", type := (.array .byte), accessFlags := 18, slot := 0, constantValue := 0 }, { name := "from", type := .int, accessFlags := 18, slot := 1, constantValue := 0 }, { name := "to", type := .int, accessFlags := 18, slot := 2, constantValue := 0 }]
  methods := #[k4m0, k4m1]
  instanceTypes := #[(.array .byte), .int, .int]
  staticTypes := #[]
  resolved := Array.replicate 115 none
  statics := none }

def pool5 : Array CpInfo := pool [(2, .class_ 4), (1, u "java/lang/Object"), (0, u "<init>"), (0, u "()V"), (35, .class_ 44), (1, u "java/util/Objects"), (61, .class_ 108), (1, u "jdk/internal/util/Preconditions"), (2, .methodref 106 112), (0, .nameAndType 113 114), (0, u "checkFromToIndex"), (0, u "(IIILjava/util/function/BiFunction;)I"), (60, u "(III)I")] 8

def k5m0 : Method := { name := "<init>", desc := "()V", sig := { parameters := [], returnType := none }, accessFlags := 2, code := none }
def k5c1 : Code := { maxStack := 4, maxLocals := 3, code := jdk_31_method_18_code, exceptionTable := #[], attributes := #[] }
def k5m1 : Method := { name := "checkFromToIndex", desc := "(III)I", sig := { parameters := [.int, .int, .int], returnType := some .int }, accessFlags := 9, code := some k5c1 }
/-- java/util/Objects -/
def k5 : Class := { plain "java/util/Objects" (some 0) with
  accessFlags := 49
  interfaces := #[]
  cf := some (fileOf pool5 42 #[] #[{ accessFlags := 2, nameIndex := 5, descriptorIndex := 6, attributes := #[] }, { accessFlags := 9, nameIndex := 113, descriptorIndex := 175, attributes := #[] }] 49 2 #[] #[])
  fields := #[]
  methods := #[k5m0, k5m1]
  instanceTypes := #[]
  staticTypes := #[]
  resolved := Array.replicate 184 none
  statics := none }

def pool6 : Array CpInfo := pool [(2, .class_ 4), (1, u "java/lang/Object"), (0, u "<init>"), (0, u "()V"), (17, .class_ 26), (1, u "jdk/internal/util/Preconditions"), (20, u "checkFromToIndex"), (7, .class_ 56), (0, u "jdk/internal/util/Preconditions$4"), (57, .class_ 115), (0, u "jdk/internal/util/Preconditions$1"), (7, u "SIOOBE_FORMATTER"), (0, u "Ljava/util/function/BiFunction;"), (0, .class_ 126), (0, u "jdk/internal/util/Preconditions$2"), (3, u "AIOOBE_FORMATTER"), (0, .class_ 132), (0, u "jdk/internal/util/Preconditions$3"), (3, u "IOOBE_FORMATTER"), (46, u "(IIILjava/util/function/BiFunction;)I")] 10

def k6m0 : Method := { name := "<init>", desc := "()V", sig := { parameters := [], returnType := none }, accessFlags := 1, code := none }
def k6c1 : Code := { maxStack := 4, maxLocals := 4, code := jdk_41_method_12_code, exceptionTable := #[], attributes := #[] }
def k6m1 : Method := { name := "checkFromToIndex", desc := "(IIILjava/util/function/BiFunction;)I", sig := { parameters := [.int, .int, .int, (.object "java/util/function/BiFunction")], returnType := some .int }, accessFlags := 9, code := some k6c1 }
/-- jdk/internal/util/Preconditions -/
def k6 : Class := { plain "jdk/internal/util/Preconditions" (some 0) with
  accessFlags := 33
  interfaces := #[]
  cf := some (fileOf pool6 24 #[.nestMembers #[55, 131, 125, 114]] #[{ accessFlags := 1, nameIndex := 5, descriptorIndex := 6, attributes := #[] }, { accessFlags := 9, nameIndex := 47, descriptorIndex := 183, attributes := #[] }] 33 2 #[] #[{ accessFlags := 25, nameIndex := 123, descriptorIndex := 124, attributes := #[] }, { accessFlags := 25, nameIndex := 130, descriptorIndex := 124, attributes := #[] }, { accessFlags := 25, nameIndex := 136, descriptorIndex := 124, attributes := #[] }])
  fields := #[{ name := "SIOOBE_FORMATTER", type := (.object "java/util/function/BiFunction"), accessFlags := 25, slot := 0, constantValue := 0 }, { name := "AIOOBE_FORMATTER", type := (.object "java/util/function/BiFunction"), accessFlags := 25, slot := 1, constantValue := 0 }, { name := "IOOBE_FORMATTER", type := (.object "java/util/function/BiFunction"), accessFlags := 25, slot := 2, constantValue := 0 }]
  methods := #[k6m0, k6m1]
  instanceTypes := #[]
  staticTypes := #[(.object "java/util/function/BiFunction"), (.object "java/util/function/BiFunction"), (.object "java/util/function/BiFunction")]
  resolved := Array.replicate 194 none
  statics := none }

def pool7 : Array CpInfo := pool [(1, u "java/lang/Cloneable"), (0, .class_ 1), (0, u "java/lang/Object"), (0, .class_ 3)] 3

/-- java/lang/Cloneable -/
def k7 : Class := { plain "java/lang/Cloneable" (some 0) with
  accessFlags := 1537
  interfaces := #[]
  cf := some (fileOf pool7 2 #[] #[] 1537 4 #[] #[])
  fields := #[]
  methods := #[]
  instanceTypes := #[]
  staticTypes := #[]
  resolved := Array.replicate 8 none
  statics := none }

def pool8 : Array CpInfo := pool [(1, u "java/io/Serializable"), (0, .class_ 1), (0, u "java/lang/Object"), (0, .class_ 3)] 3

/-- java/io/Serializable -/
def k8 : Class := { plain "java/io/Serializable" (some 0) with
  accessFlags := 1537
  interfaces := #[]
  cf := some (fileOf pool8 2 #[] #[] 1537 4 #[] #[])
  fields := #[]
  methods := #[]
  instanceTypes := #[]
  staticTypes := #[]
  resolved := Array.replicate 8 none
  statics := none }

/-- the primitive byte -/
def k9 : Class := { plain "byte" none with kind := .primitive 'B', accessFlags := 0x411 }
/-- [B -/
def k10 : Class := { plain "[B" (some 0) with kind := .array 9 .byte, interfaces := #[7, 8], accessFlags := 1041 }

/-- the primitive int -/
def k11 : Class := { plain "int" none with kind := .primitive 'I', accessFlags := 0x411 }
/-- [I -/
def k12 : Class := { plain "[I" (some 0) with kind := .array 11 .int, interfaces := #[7, 8], accessFlags := 1041 }

def heap : Heap := #[]
def classes : Array Class := #[k0, k1, k2, k3, k4, k5, k6, k7, k8, k9, k10, k11, k12]
def interned : List (Array UInt16 × Addr) := []
def slotsUsed : Nat := 0
def theMethod : MethodId := ⟨1, 1⟩
def args0 : Array Value := #[.int 5, .int 3, .int 4, .int 0]
def aboutOver (below : List Frame) : State where
  vm := { classes := classes, interned := interned.toArray }
  heap := heap
  slotsUsed := slotsUsed
  threads := #[{ frames := .invoking theMethod args0 :: below }]
def below0 : List Frame := [.native { method := ⟨0, 0⟩, args := #[] }]
def about1 : State := aboutOver below0
def p0 : Program := .bare "" "" ""
def e0 : Env := launch0.env 0 0 0
theorem w_frames : about1.frames = Frame.invoking theMethod args0 :: below0 := rfl
set_option maxRecDepth 65536 in
theorem w_args : argsFit about1.vm theMethod args0 = true := by decide +kernel
set_option maxRecDepth 65536 in
theorem w_heap : heapFits about1 = true := by decide +kernel
set_option maxRecDepth 65536 in
theorem w_runnable : about1.curStatus? = some .runnable := by decide +kernel
set_option maxRecDepth 65536 in
theorem w_alone : about1.alone = true := by decide +kernel
set_option maxRecDepth 65536 in
theorem w_named : about1.methodNamed? x = some theMethod := by decide +kernel
set_option maxRecDepth 65536 in
theorem w_hears : about1.hears theMethod below0 = true := by decide +kernel
set_option maxRecDepth 65536 in
theorem w_ripe : about1.ripe theMethod args0 below0 = true := by decide +kernel
theorem w_running : about1.status = .running := rfl
set_option maxRecDepth 65536 in
theorem w_room : about1.hasRoom e0.platform room_1 = true :=
  launch0.hasRoom_least _ room_1 (by decide +kernel) (by decide +kernel) (by decide +kernel) (by decide +kernel) (by decide +kernel) (by decide +kernel)
theorem allAtoms_all (ts : List Jvm.Cond) (a : Array Jvm.Value) (st : Jvm.State) : (allAtoms ts).before a st = ts.all (fun c => c.before a st) := by
  induction ts with
  | nil => rfl
  | cons c t ih =>
    show (Jvm.Cond.and c (allAtoms t)).before a st = _
    rw [Jvm.Cond.before_and, ih, List.all_cons]
def words1 : List Jvm.Cond := Jvm.Cond.code x code maxLocals ret :: tables_1
/-- a 'code' word, met by the world's own term for the bytes: nothing is compared byte by byte -/
theorem code_word {y : MethodName} {bytes : ByteArray} {mx : Nat} {rt : Option FieldType} {a : Array Value} {s : State} {m : MethodId} {meth : Method} {c : Code} (h1 : s.methodNamed? y = some m) (h2 : s.vm.method? m = some meth) (h3 : meth.code = some c) (h4 : c.code = bytes)
    (h5 : (c.maxLocals == mx && c.exceptionTable.isEmpty && decide (c.maxStack ≤ mostOperands) && decide (meth.sig.returnType = rt) && !meth.locks && decide (parseMethodDescriptor y.desc = some meth.sig)) = true) : (Jvm.Cond.code y bytes mx rt).before a s = true := by
  simp only [Bool.and_eq_true, beq_iff_eq, Bool.not_eq_true', decide_eq_true_eq] at h5
  obtain ⟨⟨⟨⟨⟨g1, g2⟩, g3⟩, g4⟩, g5⟩, g6⟩ := h5
  simp [Cond.before, Cond.holds, Cond.value, h1, h2, h3, h4, g1, g2, g3, g4, g5, g6]
def isCode : Jvm.Cond → Bool
  | .code _ _ _ _ => true
  | _ => false
theorem all_split {L : List Jvm.Cond} {P : Jvm.Cond → Bool} (h1 : L.all (fun c => isCode c || P c) = true) (h2 : ∀ c ∈ L.filter isCode, P c = true) : L.all P = true := by
  refine List.all_eq_true.mpr fun c hc => ?_
  have h := List.all_eq_true.mp h1 c hc
  rcases Bool.eq_false_or_eq_true (isCode c) with hi | hi
  · exact h2 c (List.mem_filter.mpr ⟨hc, hi⟩)
  · simpa [hi] using h
set_option maxRecDepth 65536 in
theorem w_c0 : (Jvm.Cond.code x code maxLocals ret).before args0 about1 = true := code_word (m := ⟨1, 1⟩) (meth := k1m1) (c := k1c1) (by decide +kernel) rfl rfl rfl (by decide +kernel)
set_option maxRecDepth 65536 in
theorem w_c1 : (Jvm.Cond.code ({ cls := "com/example/gridwire/gridwire/store/ByteSpan", name := "<init>", desc := "([BII)V" } : Jvm.MethodName) prog_80_method_1_code (4 : Nat) (Option.none : Option Jvm.ClassFile.FieldType)).before args0 about1 = true := code_word (m := ⟨4, 0⟩) (meth := k4m0) (c := k4c0) (by decide +kernel) rfl rfl rfl (by decide +kernel)
set_option maxRecDepth 65536 in
theorem w_c2 : (Jvm.Cond.code ({ cls := "java/lang/Record", name := "<init>", desc := "()V" } : Jvm.MethodName) jdk_30_method_1_code (1 : Nat) (Option.none : Option Jvm.ClassFile.FieldType)).before args0 about1 = true := code_word (m := ⟨2, 0⟩) (meth := k2m0) (c := k2c0) (by decide +kernel) rfl rfl rfl (by decide +kernel)
set_option maxRecDepth 65536 in
theorem w_c3 : (Jvm.Cond.code ({ cls := "java/lang/Object", name := "<init>", desc := "()V" } : Jvm.MethodName) object_method_1_code (1 : Nat) (Option.none : Option Jvm.ClassFile.FieldType)).before args0 about1 = true := code_word (m := ⟨0, 0⟩) (meth := k0m0) (c := k0c0) (by decide +kernel) rfl rfl rfl (by decide +kernel)
set_option maxRecDepth 65536 in
theorem w_c4 : (Jvm.Cond.code ({ cls := "java/util/Objects", name := "checkFromToIndex", desc := "(III)I" } : Jvm.MethodName) jdk_31_method_18_code (3 : Nat) (Option.some Jvm.ClassFile.FieldType.int)).before args0 about1 = true := code_word (m := ⟨5, 1⟩) (meth := k5m1) (c := k5c1) (by decide +kernel) rfl rfl rfl (by decide +kernel)
set_option maxRecDepth 65536 in
theorem w_c5 : (Jvm.Cond.code ({ cls := "jdk/internal/util/Preconditions", name := "checkFromToIndex", desc := "(IIILjava/util/function/BiFunction;)I" } : Jvm.MethodName) jdk_41_method_12_code (4 : Nat) (Option.some Jvm.ClassFile.FieldType.int)).before args0 about1 = true := code_word (m := ⟨6, 1⟩) (meth := k6m1) (c := k6c1) (by decide +kernel) rfl rfl rfl (by decide +kernel)
set_option maxRecDepth 65536 in
theorem w_c6 : (Jvm.Cond.code ({ cls := "com/example/gridwire/gridwire/store/ByteSpan", name := "isWholeArray", desc := "()Z" } : Jvm.MethodName) prog_80_method_4_code (1 : Nat) (Option.some Jvm.ClassFile.FieldType.boolean)).before args0 about1 = true := code_word (m := ⟨4, 1⟩) (meth := k4m1) (c := k4c1) (by decide +kernel) rfl rfl rfl (by decide +kernel)
def codes1 : List Jvm.Cond := [Jvm.Cond.code x code maxLocals ret, Jvm.Cond.code ({ cls := "com/example/gridwire/gridwire/store/ByteSpan", name := "<init>", desc := "([BII)V" } : Jvm.MethodName) prog_80_method_1_code (4 : Nat) (Option.none : Option Jvm.ClassFile.FieldType), Jvm.Cond.code ({ cls := "java/lang/Record", name := "<init>", desc := "()V" } : Jvm.MethodName) jdk_30_method_1_code (1 : Nat) (Option.none : Option Jvm.ClassFile.FieldType), Jvm.Cond.code ({ cls := "java/lang/Object", name := "<init>", desc := "()V" } : Jvm.MethodName) object_method_1_code (1 : Nat) (Option.none : Option Jvm.ClassFile.FieldType), Jvm.Cond.code ({ cls := "java/util/Objects", name := "checkFromToIndex", desc := "(III)I" } : Jvm.MethodName) jdk_31_method_18_code (3 : Nat) (Option.some Jvm.ClassFile.FieldType.int), Jvm.Cond.code ({ cls := "jdk/internal/util/Preconditions", name := "checkFromToIndex", desc := "(IIILjava/util/function/BiFunction;)I" } : Jvm.MethodName) jdk_41_method_12_code (4 : Nat) (Option.some Jvm.ClassFile.FieldType.int), Jvm.Cond.code ({ cls := "com/example/gridwire/gridwire/store/ByteSpan", name := "isWholeArray", desc := "()Z" } : Jvm.MethodName) prog_80_method_4_code (1 : Nat) (Option.some Jvm.ClassFile.FieldType.boolean)]
set_option maxRecDepth 65536 in
theorem codes_eq : words1.filter isCode = codes1 := rfl
theorem w_codes : ∀ c ∈ words1.filter isCode, c.before args0 about1 = true := by
  rw [codes_eq]
  intro c hc
  simp only [codes1, List.mem_cons, List.not_mem_nil, or_false] at hc
  rcases hc with rfl | rfl | rfl | rfl | rfl | rfl | rfl
  · exact w_c0
  · exact w_c1
  · exact w_c2
  · exact w_c3
  · exact w_c4
  · exact w_c5
  · exact w_c6
set_option maxRecDepth 65536 in
theorem w_t1 : (words1.take 24).all (fun c => isCode c || c.before args0 about1) = true := by decide +kernel
set_option maxRecDepth 65536 in
theorem w_t2 : (words1.drop 24).all (fun c => isCode c || c.before args0 about1) = true := by decide +kernel
theorem w_tables : (allAtoms (Jvm.Cond.code x code maxLocals ret :: tables_1)).before args0 about1 = true := by
  rw [allAtoms_all]
  show words1.all (fun c => c.before args0 about1) = true
  refine all_split ?_ w_codes
  rw [← List.take_append_drop 24 words1, List.all_append, w_t1, w_t2]
  rfl
set_option maxRecDepth 65536 in
theorem w_case : (Jvm.Cond.and given_1 narrow_1).before args0 about1 = true := by decide +kernel
theorem w_applies : (headSpec (Jvm.Cond.code x code maxLocals ret :: tables_1) room_1).applies x e0.platform about1 = true :=
  (Spec.applies_iff w_frames).mpr ⟨w_running, w_runnable, w_alone, w_named, w_hears, w_ripe, w_room, w_tables⟩
theorem atStart : AtStart classFile x code maxLocals ret World_1 tables_1 room_1 Calls_1 rest_1 Pre_1 launch0 p0 e0 about1 theMethod args0 below0 :=
  ⟨lists_1, trivial, launch0.admits_env _ _ _, launch0.least_env, fairChoices_fair.cas, fairChoices_fair.clock, w_frames, w_args, w_heap, w_applies, trivial, trivial, w_case⟩
end start1
theorem witness_1 : WitnessClaimed_1 := ⟨start1.p0, start1.e0, start1.about1, start1.theMethod, start1.args0, start1.below0, start1.atStart⟩
end Jvm.Pilot.@@N@@
