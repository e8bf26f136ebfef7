import JvmDerived
import JvmDerived.Pilot.@@N@@Statement
import JvmDerived.Pilot.@@N@@Code
set_option linter.unusedVariables false
set_option linter.unusedSimpArgs false
namespace Jvm.Pilot.@@N@@
open Jvm Jvm.ClassFile Sem Op Lib Jvm.Free Jvm.Stand Jvm.LawKit Jvm.RoadKit Bundle Jvm.Pilot.@@N@@.Jvm.D
/-! own_Go: from t the run comes to a state where G holds. A walk is written backwards from the goal, so that a case split may stand anywhere. -/
def own_Go (p : Program) (e : Env) (below : List Frame) (G : State → Prop) (t : State) : Prop := ∃ u, Steps p.tables e below t u ∧ G u
theorem own_st {p : Program} {e : Env} {below : List Frame} {G : State → Prop} {t u : State} (f : ∀ w, Steps p.tables e below u w → Steps p.tables e below t w) (k : own_Go p e below G u) : own_Go p e below G t := by
  obtain ⟨w, s, g⟩ := k
  exact ⟨w, f w s, g⟩
theorem own_jp {p : Program} {e : Env} {below : List Frame} {G : State → Prop} {t u : State} (f : Steps p.tables e below t u) (k : own_Go p e below G u) : own_Go p e below G t := by
  obtain ⟨w, s, g⟩ := k
  exact ⟨w, f.trans s, g⟩
theorem own_out {p : Program} {e : Env} {below : List Frame} {t : State} {Q : Outcome → State → Prop} (k : own_Go p e below (fun u => ∃ o, u.status = .running ∧ Ended u below o ∧ Q o u) t) : ∃ s₂ o, Steps p.tables e below t s₂ ∧ s₂.status = .running ∧ Ended s₂ below o ∧ Q o s₂ := by
  obtain ⟨w, s, o, g⟩ := k
  exact ⟨w, o, s, g⟩
theorem own_nm {p : Program} {e : Env} {below : List Frame} {G0 : State → Prop} {t : State} (k : ∀ G, G = G0 → own_Go p e below G t) : own_Go p e below G0 t := k _ rfl
theorem own_tll {x y : Int64} (h : x < y) : lcmpW x y < 0 := (lw_lt x y).mpr h
theorem own_fll {x y : Int64} (h : ¬ x < y) : ¬ lcmpW x y < 0 := fun q => h ((lw_lt x y).mp q)
theorem own_tlg {x y : Int64} (h : y < x) : 0 < lcmpW x y := (lw_gt x y).mpr h
theorem own_flg {x y : Int64} (h : ¬ y < x) : ¬ 0 < lcmpW x y := fun q => h ((lw_gt x y).mp q)
theorem own_tle {x y : Int64} (h : x = y) : lcmpW x y = 0 := (lw_eq x y).mpr h
theorem own_fle {x y : Int64} (h : ¬ x = y) : ¬ lcmpW x y = 0 := fun q => h ((lw_eq x y).mp q)
section Own
variable {p : Program} {l : Launch} {e : Env} {R : Room} {s : State} {m : MethodId} {args : Array Value} {below : List Frame} {meth : Method} {c : Code} {T : State} {locs : List Loc} {cells slots : Nat} {Z : State} {h h' : Heap} {a b : Addr} {ty : FieldType} {vs : List Value} {v : Value}
theorem own_retI (X : Stand p l e R s m args below meth c T locs cells slots) (hx : p.tables.exec = Jvm.exec) {pc : Nat} {Ls : Array Slot} {z : Int32} {rest : List Value} (hret : meth.sig.returnType = some .int) (hd : decode c.code pc = .ok (.ireturn, 1)) {fs : List Frame}
    (hl : ∀ (f : JFrame) (acts : List Action), f.method = m → f.locked = none → f.entered = [] → (doReturn e (T.setTop f) acts (some (.int z))).1 = T.setFrames fs) : Steps p.tables e below (T.setTop (mkF m pc Ls (.int z :: rest))) (T.setFrames fs) :=
  retOut X hx hret rfl (Or.inl ⟨rfl, Or.inl rfl, z, rfl⟩) hd hl
theorem own_retJ (X : Stand p l e R s m args below meth c T locs cells slots) (hx : p.tables.exec = Jvm.exec) {pc : Nat} {Ls : Array Slot} {z : Int64} {rest : List Value} (hret : meth.sig.returnType = some .long) (hd : decode c.code pc = .ok (.lreturn, 1)) {fs : List Frame}
    (hl : ∀ (f : JFrame) (acts : List Action), f.method = m → f.locked = none → f.entered = [] → (doReturn e (T.setTop f) acts (some (.long z))).1 = T.setFrames fs) : Steps p.tables e below (T.setTop (mkF m pc Ls (.long z :: rest))) (T.setFrames fs) :=
  retOut X hx hret rfl (Or.inr (Or.inl ⟨rfl, rfl, z, rfl⟩)) hd hl
/-! own_L: the array at a holds just the list vs -/
def own_L (Z : State) (h : Heap) (a : Addr) (ty : FieldType) (vs : List Value) : Prop := ∃ cl : Cell, Arr Z h a cl ty ∧ cl.slots = vs.toArray
theorem own_L.lt (F : own_L Z h a ty vs) : a < h.size := by obtain ⟨cl, A, -⟩ := F; exact A.lt
theorem own_L.ext (F : own_L Z h a ty vs) (E : Ext h h') : own_L Z h' a ty vs := by obtain ⟨cl, A, q⟩ := F; exact ⟨cl, A.ext E, q⟩
theorem own_L.other {sl : Nat} (F : own_L Z h b ty vs) (W : Wr h h' a sl v) (q : b ≠ a) : own_L Z h' b ty vs := by obtain ⟨cl, A, r⟩ := F; exact ⟨cl, A.other W q, r⟩
theorem own_L.keep {ws : List Addr} (F : own_L Z h a ty vs) (K : Keep h h' ws) (q : a ∉ ws) : own_L Z h' a ty vs := by obtain ⟨cl, A, r⟩ := F; exact ⟨cl, ⟨K.2.1 a cl A.1 q, A.2⟩, r⟩
theorem own_L.new {k : ClassId} {z : Int32} (A : Arr Z h a (newA k ty z) ty) : own_L Z h a ty (List.replicate z.toNatClampNeg (defaultValue ty)) := ⟨_, A, by simp [newA]⟩
theorem own_L.same {k : Nat} (F : own_L Z h a ty vs) (W : Wr h h' a k v) : own_L Z h' a ty (vs.set k v) := by
  obtain ⟨cl, A, q⟩ := F
  exact ⟨_, A.same W, by simp [Cell.setSlot, q]⟩
theorem own_in {cl : Cell} {j : Int32} (q : cl.slots = vs.toArray) (h1 : ¬ j < 0) (h2 : j.toNatClampNeg < vs.length) : ¬ (j < 0 ∨ cl.slots.size ≤ j.toNatClampNeg) := by
  rw [q]
  rintro (r | r)
  · exact h1 r
  · simp at r; omega
theorem own_at {cl : Cell} {k : Nat} (q : cl.slots = vs.toArray) (hv : vs[k]? = some v) : cl.slots[k]? = some v := by rw [q]; simpa using hv
theorem own_lt {k : Nat} (hv : vs[k]? = some v) : k < vs.length := by
  obtain ⟨q, -⟩ := List.getElem?_eq_some_iff.mp hv
  exact q
theorem own_bld (X : Stand p l e R s m args below meth c T locs cells slots) (hx : p.tables.exec = Jvm.exec) (hZ : Z.Warmed39 s.vm) (eT : T.heap = h) (F : own_L Z h a .byte vs) {j : Int32} {i : Nat} (h1 : ¬ j < 0) (hi : j.toNatClampNeg = i) (hv : vs[i]? = some v) {g : JFrame} (hg : g.method = m) {rest : List Value} (hs : g.stack = .int j :: .ref a :: rest) (hd : decode c.code g.pc = .ok (.baload, 1)) :
    ∀ target, Steps p.tables e below (T.setTop { g with pc := g.pc + 1, stack := v :: rest }) target → Steps p.tables e below (T.setTop g) target := by
  obtain ⟨cl, A, q⟩ := F
  subst hi
  exact X.baloadBytes hx (by rw [eT]; exact A.1) (State.isArrayOf_alike hZ.alike A.2.1) A.2.2 (own_in q h1 (own_lt hv)) (own_at q hv) hg hs hd
theorem own_jld (X : Stand p l e R s m args below meth c T locs cells slots) (hx : p.tables.exec = Jvm.exec) (hZ : Z.Warmed39 s.vm) (eT : T.heap = h) (F : own_L Z h a .long vs) {j : Int32} {i : Nat} (h1 : ¬ j < 0) (hi : j.toNatClampNeg = i) (hv : vs[i]? = some v) {g : JFrame} (hg : g.method = m) {rest : List Value} (hs : g.stack = .int j :: .ref a :: rest) (hd : decode c.code g.pc = .ok (.laload, 1)) :
    ∀ target, Steps p.tables e below (T.setTop { g with pc := g.pc + 1, stack := v :: rest }) target → Steps p.tables e below (T.setTop g) target := by
  obtain ⟨cl, A, q⟩ := F
  subst hi
  exact X.laload hx (by rw [eT]; exact A.1) (State.isArrayOf_alike hZ.alike A.2.1) A.2.2 (own_in q h1 (own_lt hv)) (own_at q hv) hg hs hd
theorem own_ild (X : Stand p l e R s m args below meth c T locs cells slots) (hx : p.tables.exec = Jvm.exec) (hZ : Z.Warmed39 s.vm) (eT : T.heap = h) (F : own_L Z h a .int vs) {j : Int32} {i : Nat} (h1 : ¬ j < 0) (hi : j.toNatClampNeg = i) (hv : vs[i]? = some v) {g : JFrame} (hg : g.method = m) {rest : List Value} (hs : g.stack = .int j :: .ref a :: rest) (hd : decode c.code g.pc = .ok (.iaload, 1)) :
    ∀ target, Steps p.tables e below (T.setTop { g with pc := g.pc + 1, stack := v :: rest }) target → Steps p.tables e below (T.setTop g) target := by
  obtain ⟨cl, A, q⟩ := F
  subst hi
  exact X.iaload hx (by rw [eT]; exact A.1) (State.isArrayOf_alike hZ.alike A.2.1) A.2.2 (own_in q h1 (own_lt hv)) (own_at q hv) hg hs hd
theorem own_zld (X : Stand p l e R s m args below meth c T locs cells slots) (hx : p.tables.exec = Jvm.exec) (hZ : Z.Warmed39 s.vm) (eT : T.heap = h) (F : own_L Z h a .boolean vs) {j : Int32} {i : Nat} (h1 : ¬ j < 0) (hi : j.toNatClampNeg = i) (hv : vs[i]? = some v) {g : JFrame} (hg : g.method = m) {rest : List Value} (hs : g.stack = .int j :: .ref a :: rest) (hd : decode c.code g.pc = .ok (.baload, 1)) :
    ∀ target, Steps p.tables e below (T.setTop { g with pc := g.pc + 1, stack := v :: rest }) target → Steps p.tables e below (T.setTop g) target := by
  obtain ⟨cl, A, q⟩ := F
  subst hi
  exact X.baloadBooleans hx (by rw [eT]; exact A.1) (State.isArrayOf_alike hZ.alike A.2.1) A.2.2 (own_in q h1 (own_lt hv)) (own_at q hv) hg hs hd
theorem own_len (X : Stand p l e R s m args below meth c T locs cells slots) (hx : p.tables.exec = Jvm.exec) (hZ : Z.Warmed39 s.vm) (eT : T.heap = h) (F : own_L Z h a ty vs) {z : Int32} (hz : vs.length.toInt32 = z) {g : JFrame} (hg : g.method = m) {rest : List Value} (hs : g.stack = .ref a :: rest) (hd : decode c.code g.pc = .ok (.arraylength, 1)) :
    ∀ target, Steps p.tables e below (T.setTop { g with pc := g.pc + 1, stack := .int z :: rest }) target → Steps p.tables e below (T.setTop g) target := by
  obtain ⟨cl, A, q⟩ := F
  intro w k
  refine X.arraylength hx (by rw [eT]; exact A.1) (State.isArrayOf_alike hZ.alike A.2.1) hg hs hd w ?_
  have q2 : cl.slots.size.toInt32 = z := by rw [← hz, q]; simp
  rw [q2]; exact k
theorem own_bst (X : Stand p l e R s m args below meth c T locs cells slots) (hx : p.tables.exec = Jvm.exec) (hZ : Z.Warmed39 s.vm) (eT : T.heap = h) (F : own_L Z h a .byte vs) {j x : Int32} (i : Nat) (h1 : ¬ j < 0) (hi : j.toNatClampNeg = i) (h2 : i < vs.length) {g : JFrame} (hg : g.method = m) {rest : List Value} (hs : g.stack = .int x :: .int j :: .ref a :: rest) (hd : decode c.code g.pc = .ok (.bastore, 1)) :
    ∃ T' h', Stand p l e R s m args below meth c T' (locs ++ [⟨a, i⟩]) cells slots ∧ T'.heap = h' ∧ Wr h h' a i (.int x.toInt8.toInt32) ∧ own_L Z h' a .byte (vs.set i (.int x.toInt8.toInt32)) ∧ ∀ target, Steps p.tables e below (T'.setTop { g with pc := g.pc + 1, stack := rest }) target → Steps p.tables e below (T.setTop g) target := by
  obtain ⟨cl, A, q⟩ := F
  subst hi
  obtain ⟨T', h', X', e', W, st⟩ := stB X hx hZ eT A (own_in q h1 h2) hg hs hd
  exact ⟨T', h', X', e', W, own_L.same ⟨cl, A, q⟩ W, st⟩
theorem own_zst (X : Stand p l e R s m args below meth c T locs cells slots) (hx : p.tables.exec = Jvm.exec) (hZ : Z.Warmed39 s.vm) (eT : T.heap = h) (F : own_L Z h a .boolean vs) {j x : Int32} (i : Nat) (h1 : ¬ j < 0) (hi : j.toNatClampNeg = i) (h2 : i < vs.length) {g : JFrame} (hg : g.method = m) {rest : List Value} (hs : g.stack = .int x :: .int j :: .ref a :: rest) (hd : decode c.code g.pc = .ok (.bastore, 1)) :
    ∃ T' h', Stand p l e R s m args below meth c T' (locs ++ [⟨a, i⟩]) cells slots ∧ T'.heap = h' ∧ Wr h h' a i (.int (x &&& 1)) ∧ own_L Z h' a .boolean (vs.set i (.int (x &&& 1))) ∧ ∀ target, Steps p.tables e below (T'.setTop { g with pc := g.pc + 1, stack := rest }) target → Steps p.tables e below (T.setTop g) target := by
  obtain ⟨cl, A, q⟩ := F
  subst hi
  obtain ⟨T', h', X', e', W, st⟩ := stZ X hx hZ eT A (own_in q h1 h2) hg hs hd
  exact ⟨T', h', X', e', W, own_L.same ⟨cl, A, q⟩ W, st⟩
theorem own_jst (X : Stand p l e R s m args below meth c T locs cells slots) (hx : p.tables.exec = Jvm.exec) (hZ : Z.Warmed39 s.vm) (eT : T.heap = h) (F : own_L Z h a .long vs) {j : Int32} {x : Int64} (i : Nat) (h1 : ¬ j < 0) (hi : j.toNatClampNeg = i) (h2 : i < vs.length) {g : JFrame} (hg : g.method = m) {rest : List Value} (hs : g.stack = .long x :: .int j :: .ref a :: rest) (hd : decode c.code g.pc = .ok (.lastore, 1)) :
    ∃ T' h', Stand p l e R s m args below meth c T' (locs ++ [⟨a, i⟩]) cells slots ∧ T'.heap = h' ∧ Wr h h' a i (.long x) ∧ own_L Z h' a .long (vs.set i (.long x)) ∧ ∀ target, Steps p.tables e below (T'.setTop { g with pc := g.pc + 1, stack := rest }) target → Steps p.tables e below (T.setTop g) target := by
  obtain ⟨cl, A, q⟩ := F
  subst hi
  obtain ⟨T', h', X', e', W, st⟩ := stJ X hx hZ eT A (own_in q h1 h2) hg hs hd
  exact ⟨T', h', X', e', W, own_L.same ⟨cl, A, q⟩ W, st⟩
theorem own_ist (X : Stand p l e R s m args below meth c T locs cells slots) (hx : p.tables.exec = Jvm.exec) (hZ : Z.Warmed39 s.vm) (eT : T.heap = h) (F : own_L Z h a .int vs) {j x : Int32} (i : Nat) (h1 : ¬ j < 0) (hi : j.toNatClampNeg = i) (h2 : i < vs.length) {g : JFrame} (hg : g.method = m) {rest : List Value} (hs : g.stack = .int x :: .int j :: .ref a :: rest) (hd : decode c.code g.pc = .ok (.iastore, 1)) :
    ∃ T' h', Stand p l e R s m args below meth c T' (locs ++ [⟨a, i⟩]) cells slots ∧ T'.heap = h' ∧ Wr h h' a i (.int x) ∧ own_L Z h' a .int (vs.set i (.int x)) ∧ ∀ target, Steps p.tables e below (T'.setTop { g with pc := g.pc + 1, stack := rest }) target → Steps p.tables e below (T.setTop g) target := by
  obtain ⟨cl, A, q⟩ := F
  subst hi
  obtain ⟨T', h', X', e', W, st⟩ := stI X hx hZ eT A (own_in q h1 h2) hg hs hd
  exact ⟨T', h', X', e', W, own_L.same ⟨cl, A, q⟩ W, st⟩
theorem own_clone (X : Stand p l e R s m args below meth c T locs cells slots) (hx : p.tables.exec = Jvm.exec) (hZ : Z.Warmed39 s.vm) {a0 : Array Value} {own ad : String} {index : Nat} (hown : s.vm.findClass own = some m.cls)
    (w1 : (Cond.methodLink own index ⟨ad, "clone", "()Ljava/lang/Object;"⟩).before a0 Z = true) (w2 : (Cond.sameMethod ad "java/lang/Object" "clone" "()Ljava/lang/Object;").before a0 Z = true) (w3 : (Cond.native ⟨"java/lang/Object", "clone", "()Ljava/lang/Object;"⟩).before a0 Z = true)
    (w4 : (Cond.instanceMethod ⟨"java/lang/Object", "clone", "()Ljava/lang/Object;"⟩).before a0 Z = true) (w5 : (Cond.selects ad ⟨ad, "clone", "()Ljava/lang/Object;"⟩ ⟨"java/lang/Object", "clone", "()Ljava/lang/Object;"⟩).before a0 Z = true) (w6 : (Cond.castable ad "java/lang/Cloneable").before a0 Z = true)
    (eT : T.heap = h) (F : own_L Z h a ty vs) (E : Exa Z h a ad) (hfit : ∀ v ∈ vs, fits ty v = true) {g : JFrame} (hg : g.method = m) (hsize : g.locals.size = c.maxLocals) {rest : List Value} (hs : g.stack = .ref a :: rest) (hd : decode c.code g.pc = .ok (.invokevirtual index, 3))
    (hf : 1 ≤ R.frames) {W cap : Nat} (hW : 2 * g.monitorRoom + (rest.map fun v => v.category).sum ≤ W) (hl : W + 14 ≤ R.locals) (hcap : vs.length ≤ cap) (hc : cells + 1 ≤ R.cells) (hsl : slots + cap ≤ R.slots) :
    ∃ T' h', Stand p l e R s m args below meth c T' locs (cells + 1) (slots + cap) ∧ T'.heap = h' ∧ Ext h h' ∧ own_L Z h' h.size ty vs ∧ Exa Z h' h.size ad ∧
      ∀ target, Steps p.tables e below (T'.setTop { g with pc := g.pc + 3, stack := .ref h.size :: rest }) target → Steps p.tables e below (T.setTop g) target := by
  obtain ⟨cl, A, q⟩ := F
  have FC : FitC Z cl := fitC_of A fun i hi v hv => hfit v (by
    rw [q] at hv
    exact List.mem_of_getElem? (by simpa using hv))
  obtain ⟨T', h', X', e', ex, A', E', st⟩ := cloneA X hx hZ hown w1 w2 w3 w4 w5 w6 eT A E FC hg hsize hs hd hf hW hl (by rw [q]; simpa using hcap) hc hsl
  exact ⟨T', h', X', e', ex, ⟨cloneOf cl, A', q⟩, E', st⟩
end Own
theorem own_sm (q : Int32) (k : Nat) (hk : q.toBitVec.toNat % 64 = k) : (q &&& 0x3f).toInt64.toBitVec = BitVec.ofNat 64 k ∧ k < 64 := by
  have hk' : k < 64 := by omega
  refine ⟨?_, hk'⟩
  have h1 : (q &&& 0x3f).toBitVec = BitVec.ofNat 32 k := by
    apply BitVec.eq_of_toNat_eq
    have : (q &&& 0x3f).toBitVec = q.toBitVec &&& 0x3f#32 := rfl
    rw [this, BitVec.toNat_and]
    have e : (0x3f#32).toNat = 2^6 - 1 := rfl
    rw [e, Nat.and_two_pow_sub_one_eq_mod, BitVec.toNat_ofNat]
    omega
  show ((q &&& 0x3f).toBitVec).signExtend 64 = _
  rw [h1]
  have hm : (BitVec.ofNat 32 k).msb = false := by
    rw [BitVec.msb_eq_decide]; simp; omega
  rw [BitVec.signExtend_eq_setWidth_of_msb_false hm]
  apply BitVec.eq_of_toNat_eq
  simp
  omega
theorem own_smod (k : Nat) (h : k < 64) : ((BitVec.ofNat 64 k).smod 64#64).toNat = k := by
  have : ∀ k : Fin 64, ((BitVec.ofNat 64 k.val).smod 64#64).toNat = k.val := by decide
  exact this ⟨k, h⟩
theorem own_lushr (x : Int64) (q : Int32) (k : Nat) (hk : q.toBitVec.toNat % 64 = k) : ((x.toUInt64 >>> (q &&& 0x3f).toInt64.toUInt64).toInt64).toBitVec = x.toBitVec >>> k := by
  obtain ⟨h, hk'⟩ := own_sm q k hk
  show (x.toBitVec >>> ((q &&& 0x3f).toInt64.toBitVec % 64#64).toNat) = _
  rw [h]
  congr 1
  simp
  omega
theorem own_lshl (x : Int64) (q : Int32) (k : Nat) (hk : q.toBitVec.toNat % 64 = k) : (x <<< (q &&& 0x3f).toInt64).toBitVec = x.toBitVec <<< k := by
  obtain ⟨h, hk'⟩ := own_sm q k hk
  show (x.toBitVec <<< ((q &&& 0x3f).toInt64.toBitVec.smod 64#64).toNat) = _
  rw [h, own_smod k hk']
theorem own_lshr (x : Int64) (q : Int32) (k : Nat) (hk : q.toBitVec.toNat % 64 = k) : (x >>> (q &&& 0x3f).toInt64).toBitVec = x.toBitVec.sshiftRight k := by
  obtain ⟨h, hk'⟩ := own_sm q k hk
  show (x.toBitVec.sshiftRight ((q &&& 0x3f).toInt64.toBitVec.smod 64#64).toNat) = _
  rw [h, own_smod k hk']
def own_x (k : Int64) : Int64 := k ^^^ ((k.toUInt64 >>> ((33 : Int32) &&& 0x3f).toInt64.toUInt64).toInt64)
theorem own_xx (k : Int64) : own_x (own_x k) = k := by
  apply Int64.toBitVec_inj.mp
  have hx : ∀ k : Int64, (own_x k).toBitVec = k.toBitVec ^^^ (k.toBitVec >>> 33) := fun k => by
    show k.toBitVec ^^^ _ = _
    rw [own_lushr k 33 33 (by decide)]
  rw [hx, hx]
  apply BitVec.eq_of_getLsbD_eq
  intro i hi
  simp only [BitVec.getLsbD_xor, BitVec.getLsbD_ushiftRight]
  rw [BitVec.getLsbD_of_ge _ (33 + (33 + i)) (by omega)]
  cases k.toBitVec.getLsbD i <;> cases k.toBitVec.getLsbD (33 + i) <;> rfl
theorem pn_0 : plainName "com/example/out_filter/outfilter/MurmurHash3" = true := by first | (simp [plainName, overriddenIn]; done) | decide +kernel
theorem d1_0 : decode prog_16_method_8_code 0 = .ok (.lload_n 0, 1) := by decide +kernel
theorem d1_1 : decode prog_16_method_8_code 1 = .ok (.lstore_n 2, 1) := by decide +kernel
theorem d1_2 : decode prog_16_method_8_code 2 = .ok (.lload_n 2, 1) := by decide +kernel
theorem d1_3 : decode prog_16_method_8_code 3 = .ok (.lload_n 2, 1) := by decide +kernel
theorem d1_4 : decode prog_16_method_8_code 4 = .ok (.bipush 33, 2) := by decide +kernel
theorem d1_6 : decode prog_16_method_8_code 6 = .ok (.lushr, 1) := by decide +kernel
theorem d1_7 : decode prog_16_method_8_code 7 = .ok (.lxor, 1) := by decide +kernel
theorem d1_8 : decode prog_16_method_8_code 8 = .ok (.lstore_n 2, 1) := by decide +kernel
theorem d1_9 : decode prog_16_method_8_code 9 = .ok (.lload_n 2, 1) := by decide +kernel
theorem d1_10 : decode prog_16_method_8_code 10 = .ok (.ldc2_w 79, 3) := by decide +kernel
theorem d1_13 : decode prog_16_method_8_code 13 = .ok (.lmul, 1) := by decide +kernel
theorem d1_14 : decode prog_16_method_8_code 14 = .ok (.lstore_n 2, 1) := by decide +kernel
theorem d1_15 : decode prog_16_method_8_code 15 = .ok (.lload_n 2, 1) := by decide +kernel
theorem d1_16 : decode prog_16_method_8_code 16 = .ok (.lload_n 2, 1) := by decide +kernel
theorem d1_17 : decode prog_16_method_8_code 17 = .ok (.bipush 33, 2) := by decide +kernel
theorem d1_19 : decode prog_16_method_8_code 19 = .ok (.lushr, 1) := by decide +kernel
theorem d1_20 : decode prog_16_method_8_code 20 = .ok (.lxor, 1) := by decide +kernel
theorem d1_21 : decode prog_16_method_8_code 21 = .ok (.lstore_n 2, 1) := by decide +kernel
theorem d1_22 : decode prog_16_method_8_code 22 = .ok (.lload_n 2, 1) := by decide +kernel
theorem d1_23 : decode prog_16_method_8_code 23 = .ok (.ldc2_w 81, 3) := by decide +kernel
theorem d1_26 : decode prog_16_method_8_code 26 = .ok (.lmul, 1) := by decide +kernel
theorem d1_27 : decode prog_16_method_8_code 27 = .ok (.lstore_n 2, 1) := by decide +kernel
theorem d1_28 : decode prog_16_method_8_code 28 = .ok (.lload_n 2, 1) := by decide +kernel
theorem d1_29 : decode prog_16_method_8_code 29 = .ok (.lload_n 2, 1) := by decide +kernel
theorem d1_30 : decode prog_16_method_8_code 30 = .ok (.bipush 33, 2) := by decide +kernel
theorem d1_32 : decode prog_16_method_8_code 32 = .ok (.lushr, 1) := by decide +kernel
theorem d1_33 : decode prog_16_method_8_code 33 = .ok (.lxor, 1) := by decide +kernel
theorem d1_34 : decode prog_16_method_8_code 34 = .ok (.lstore_n 2, 1) := by decide +kernel
theorem d1_35 : decode prog_16_method_8_code 35 = .ok (.lload_n 2, 1) := by decide +kernel
theorem d1_36 : decode prog_16_method_8_code 36 = .ok (.lreturn, 1) := by decide +kernel
theorem ef_rm1 (m : MethodId) (u : Int64) : entryFrame m #[(.long u)] 4 = mkF m 0 #[.val (.long u), .second, .unset, .unset] [] := by first | rfl | (simp [entryFrame, mkF, argsToLocals, Value.category]; done)
def own_f1 (u : Int64) : Int64 := (((((u ^^^ ((u.toUInt64 >>> ((33 : Int32) &&& 0x3f).toInt64.toUInt64).toInt64)) * (-49064778989728563 : Int64)) ^^^ ((((u ^^^ ((u.toUInt64 >>> ((33 : Int32) &&& 0x3f).toInt64.toUInt64).toInt64)) * (-49064778989728563 : Int64)).toUInt64 >>> ((33 : Int32) &&& 0x3f).toInt64.toUInt64).toInt64)) * (-4265267296055464877 : Int64)) ^^^ ((((((u ^^^ ((u.toUInt64 >>> ((33 : Int32) &&& 0x3f).toInt64.toUInt64).toInt64)) * (-49064778989728563 : Int64)) ^^^ ((((u ^^^ ((u.toUInt64 >>> ((33 : Int32) &&& 0x3f).toInt64.toUInt64).toInt64)) * (-49064778989728563 : Int64)).toUInt64 >>> ((33 : Int32) &&& 0x3f).toInt64.toUInt64).toInt64)) * (-4265267296055464877 : Int64)).toUInt64 >>> ((33 : Int32) &&& 0x3f).toInt64.toUInt64).toInt64))
def Q1 (Z : State) (u : Int64) (h0 : Heap) (n0 : Nat) (rv : Option Value) (hq : Heap) (Lq : List Loc) : Prop := rv = some (.long (own_f1 u)) ∧ Fr n0 Lq ∧ hq = h0
set_option maxRecDepth 65536 in
set_option maxHeartbeats 40000000 in
theorem rm1 (l : Launch) (Z : State) (a0 : Array Value) (hw : ∀ d ∈ tables_1, d.before a0 Z = true) (ws : List Jvm.Cond) (u : Int64) (h0 : Heap) (n0 : Nat) (Z0 : n0 ≤ h0.size) :
    MetFree l (⟨"com/example/out_filter/outfilter/MurmurHash3", "finalMix", "(J)J"⟩ : MethodName) (head1 (Jvm.Cond.code (⟨"com/example/out_filter/outfilter/MurmurHash3", "finalMix", "(J)J"⟩ : MethodName) prog_16_method_8_code 4 (some .long) :: ws) ({ frames := 0, cells := 0, slots := 0, locals := 0 } : Room)) (fun za U => za = #[(.long u)] ∧ Z.Warmed39 U.vm ∧ U.heap = h0) (fun _ _ _ _ _ => True) (fun _ U o U' => ∃ rv Lq, o = .returned rv ∧ Q1 Z u h0 n0 rv U'.heap Lq ∧ FrameEnd U o U' Lq ({ frames := 0, cells := 0, slots := 0, locals := 0 } : Room).cells ({ frames := 0, cells := 0, slots := 0, locals := 0 } : Room).slots) := by
  refine MetFree.of_bodySF (plainFor_of_name pn_0) hisR ?_
  intro p e s m args below meth c s₁ Bd hml0 hP hK
  obtain ⟨rfl, hZ, hh⟩ := hP
  have hx := Bd.exec
  have hby := Bd.bytes
  have hml : c.maxLocals = 4 := hml0
  have hown : s.vm.findClass "com/example/out_filter/outfilter/MurmurHash3" = some m.cls := findClass_of_methodNamed Bd.named
  have hnm := (name_of_methodNamed Bd.named Bd.method).1
  have X0 : Stand p l e ({ frames := 0, cells := 0, slots := 0, locals := 0 } : Room) s m #[(.long u)] below meth c s₁ [] 0 0 := Stand.of_body Bd
  have e0 : s₁.heap = h0 := by rw [← hh, Bd.state]; rfl
  have N0 := Fr.nil n0
  refine own_out (own_nm fun G hG => own_st (fun zt zk => castTop (ef_rm1 m u) zk) ?_)
  show own_Go p e below G (s₁.setTop (mkF m 0 #[.val (.long u), .second, .unset, .unset] []))
  refine own_st (fun zw zk => XS.lloadN X0.here hx rfl (hb hby d1_0) rfl zk) ?_
  refine own_st (fun zw zk => XS.lstoreN X0.here hx rfl (hb hby d1_1) rfl rfl zk) ?_
  show own_Go p e below G (s₁.setTop (mkF m 2 #[.val (.long u), .second, .val (.long u), .second] []))
  refine own_st (fun zw zk => XS.lloadN X0.here hx rfl (hb hby d1_2) rfl zk) ?_
  refine own_st (fun zw zk => XS.lloadN X0.here hx rfl (hb hby d1_3) rfl zk) ?_
  refine own_st (fun zw zk => XS.bipush X0.here hx rfl (hb hby d1_4) zk) ?_
  refine own_st (fun zw zk => XS.lushr X0.here hx rfl (hb hby d1_6) rfl zk) ?_
  refine own_st (fun zw zk => XS.lxor X0.here hx rfl (hb hby d1_7) rfl zk) ?_
  refine own_st (fun zw zk => XS.lstoreN X0.here hx rfl (hb hby d1_8) rfl rfl zk) ?_
  show own_Go p e below G (s₁.setTop (mkF m 9 #[.val (.long u), .second, .val (.long (u ^^^ ((u.toUInt64 >>> ((33 : Int32) &&& 0x3f).toInt64.toUInt64).toInt64))), .second] []))
  refine own_st (fun zw zk => XS.lloadN X0.here hx rfl (hb hby d1_9) rfl zk) ?_
  refine own_st (fun zw zk => X0.ldc2Long hx hown (mvT hZ (hw _ (List.mem_of_getElem? (i := 4) rfl))) (g := (mkF m 10 #[.val (.long u), .second, .val (.long (u ^^^ ((u.toUInt64 >>> ((33 : Int32) &&& 0x3f).toInt64.toUInt64).toInt64))), .second] [(.long (u ^^^ ((u.toUInt64 >>> ((33 : Int32) &&& 0x3f).toInt64.toUInt64).toInt64)))])) rfl (hb hby d1_10) _ zk) ?_
  refine own_st (fun zw zk => XS.lmul X0.here hx rfl (hb hby d1_13) rfl zk) ?_
  refine own_st (fun zw zk => XS.lstoreN X0.here hx rfl (hb hby d1_14) rfl rfl zk) ?_
  show own_Go p e below G (s₁.setTop (mkF m 15 #[.val (.long u), .second, .val (.long ((u ^^^ ((u.toUInt64 >>> ((33 : Int32) &&& 0x3f).toInt64.toUInt64).toInt64)) * (-49064778989728563 : Int64))), .second] []))
  refine own_st (fun zw zk => XS.lloadN X0.here hx rfl (hb hby d1_15) rfl zk) ?_
  refine own_st (fun zw zk => XS.lloadN X0.here hx rfl (hb hby d1_16) rfl zk) ?_
  refine own_st (fun zw zk => XS.bipush X0.here hx rfl (hb hby d1_17) zk) ?_
  refine own_st (fun zw zk => XS.lushr X0.here hx rfl (hb hby d1_19) rfl zk) ?_
  refine own_st (fun zw zk => XS.lxor X0.here hx rfl (hb hby d1_20) rfl zk) ?_
  refine own_st (fun zw zk => XS.lstoreN X0.here hx rfl (hb hby d1_21) rfl rfl zk) ?_
  show own_Go p e below G (s₁.setTop (mkF m 22 #[.val (.long u), .second, .val (.long (((u ^^^ ((u.toUInt64 >>> ((33 : Int32) &&& 0x3f).toInt64.toUInt64).toInt64)) * (-49064778989728563 : Int64)) ^^^ ((((u ^^^ ((u.toUInt64 >>> ((33 : Int32) &&& 0x3f).toInt64.toUInt64).toInt64)) * (-49064778989728563 : Int64)).toUInt64 >>> ((33 : Int32) &&& 0x3f).toInt64.toUInt64).toInt64))), .second] []))
  refine own_st (fun zw zk => XS.lloadN X0.here hx rfl (hb hby d1_22) rfl zk) ?_
  refine own_st (fun zw zk => X0.ldc2Long hx hown (mvT hZ (hw _ (List.mem_of_getElem? (i := 5) rfl))) (g := (mkF m 23 #[.val (.long u), .second, .val (.long (((u ^^^ ((u.toUInt64 >>> ((33 : Int32) &&& 0x3f).toInt64.toUInt64).toInt64)) * (-49064778989728563 : Int64)) ^^^ ((((u ^^^ ((u.toUInt64 >>> ((33 : Int32) &&& 0x3f).toInt64.toUInt64).toInt64)) * (-49064778989728563 : Int64)).toUInt64 >>> ((33 : Int32) &&& 0x3f).toInt64.toUInt64).toInt64))), .second] [(.long (((u ^^^ ((u.toUInt64 >>> ((33 : Int32) &&& 0x3f).toInt64.toUInt64).toInt64)) * (-49064778989728563 : Int64)) ^^^ ((((u ^^^ ((u.toUInt64 >>> ((33 : Int32) &&& 0x3f).toInt64.toUInt64).toInt64)) * (-49064778989728563 : Int64)).toUInt64 >>> ((33 : Int32) &&& 0x3f).toInt64.toUInt64).toInt64)))])) rfl (hb hby d1_23) _ zk) ?_
  refine own_st (fun zw zk => XS.lmul X0.here hx rfl (hb hby d1_26) rfl zk) ?_
  refine own_st (fun zw zk => XS.lstoreN X0.here hx rfl (hb hby d1_27) rfl rfl zk) ?_
  show own_Go p e below G (s₁.setTop (mkF m 28 #[.val (.long u), .second, .val (.long ((((u ^^^ ((u.toUInt64 >>> ((33 : Int32) &&& 0x3f).toInt64.toUInt64).toInt64)) * (-49064778989728563 : Int64)) ^^^ ((((u ^^^ ((u.toUInt64 >>> ((33 : Int32) &&& 0x3f).toInt64.toUInt64).toInt64)) * (-49064778989728563 : Int64)).toUInt64 >>> ((33 : Int32) &&& 0x3f).toInt64.toUInt64).toInt64)) * (-4265267296055464877 : Int64))), .second] []))
  refine own_st (fun zw zk => XS.lloadN X0.here hx rfl (hb hby d1_28) rfl zk) ?_
  refine own_st (fun zw zk => XS.lloadN X0.here hx rfl (hb hby d1_29) rfl zk) ?_
  refine own_st (fun zw zk => XS.bipush X0.here hx rfl (hb hby d1_30) zk) ?_
  refine own_st (fun zw zk => XS.lushr X0.here hx rfl (hb hby d1_32) rfl zk) ?_
  refine own_st (fun zw zk => XS.lxor X0.here hx rfl (hb hby d1_33) rfl zk) ?_
  refine own_st (fun zw zk => XS.lstoreN X0.here hx rfl (hb hby d1_34) rfl rfl zk) ?_
  show own_Go p e below G (s₁.setTop (mkF m 35 #[.val (.long u), .second, .val (.long (((((u ^^^ ((u.toUInt64 >>> ((33 : Int32) &&& 0x3f).toInt64.toUInt64).toInt64)) * (-49064778989728563 : Int64)) ^^^ ((((u ^^^ ((u.toUInt64 >>> ((33 : Int32) &&& 0x3f).toInt64.toUInt64).toInt64)) * (-49064778989728563 : Int64)).toUInt64 >>> ((33 : Int32) &&& 0x3f).toInt64.toUInt64).toInt64)) * (-4265267296055464877 : Int64)) ^^^ ((((((u ^^^ ((u.toUInt64 >>> ((33 : Int32) &&& 0x3f).toInt64.toUInt64).toInt64)) * (-49064778989728563 : Int64)) ^^^ ((((u ^^^ ((u.toUInt64 >>> ((33 : Int32) &&& 0x3f).toInt64.toUInt64).toInt64)) * (-49064778989728563 : Int64)).toUInt64 >>> ((33 : Int32) &&& 0x3f).toInt64.toUInt64).toInt64)) * (-4265267296055464877 : Int64)).toUInt64 >>> ((33 : Int32) &&& 0x3f).toInt64.toUInt64).toInt64))), .second] []))
  refine own_st (fun zw zk => XS.lloadN X0.here hx rfl (hb hby d1_35) rfl zk) ?_
  subst hG
  obtain ⟨fs, hr, hrun, hended, hW, hsame⟩ := X0.leave (v := some (.long (((((u ^^^ ((u.toUInt64 >>> ((33 : Int32) &&& 0x3f).toInt64.toUInt64).toInt64)) * (-49064778989728563 : Int64)) ^^^ ((((u ^^^ ((u.toUInt64 >>> ((33 : Int32) &&& 0x3f).toInt64.toUInt64).toInt64)) * (-49064778989728563 : Int64)).toUInt64 >>> ((33 : Int32) &&& 0x3f).toInt64.toUInt64).toInt64)) * (-4265267296055464877 : Int64)) ^^^ ((((((u ^^^ ((u.toUInt64 >>> ((33 : Int32) &&& 0x3f).toInt64.toUInt64).toInt64)) * (-49064778989728563 : Int64)) ^^^ ((((u ^^^ ((u.toUInt64 >>> ((33 : Int32) &&& 0x3f).toInt64.toUInt64).toInt64)) * (-49064778989728563 : Int64)).toUInt64 >>> ((33 : Int32) &&& 0x3f).toInt64.toUInt64).toInt64)) * (-4265267296055464877 : Int64)).toUInt64 >>> ((33 : Int32) &&& 0x3f).toInt64.toUInt64).toInt64)))) (fun h => by rw [Bd.returns] at h; cases h)
  refine ⟨_, own_retJ X0 hx Bd.returns (hb hby d1_36) hr, _, hrun, hended, _, _, rfl, ?_, ⟨_, rfl⟩, hW, hsame.mono (by decide) (by decide)⟩
  show Q1 Z u h0 n0 _ s₁.heap _
  rw [e0]
  exact ⟨rfl, N0, rfl⟩
theorem pn_1 : plainName "com/example/out_filter/outfilter/MurmurHash3FinalMixPinLaw" = true := by first | (simp [plainName, overriddenIn]; done) | decide +kernel
theorem d2_0 : decode method_2_code 0 = .ok (.lload_n 0, 1) := by decide +kernel
theorem d2_1 : decode method_2_code 1 = .ok (.lstore_n 2, 1) := by decide +kernel
theorem d2_2 : decode method_2_code 2 = .ok (.lload_n 2, 1) := by decide +kernel
theorem d2_3 : decode method_2_code 3 = .ok (.ldc2_w 7, 3) := by decide +kernel
theorem d2_6 : decode method_2_code 6 = .ok (.lload_n 0, 1) := by decide +kernel
theorem d2_7 : decode method_2_code 7 = .ok (.lload_n 2, 1) := by decide +kernel
theorem d2_8 : decode method_2_code 8 = .ok (.lmul, 1) := by decide +kernel
theorem d2_9 : decode method_2_code 9 = .ok (.lsub, 1) := by decide +kernel
theorem d2_10 : decode method_2_code 10 = .ok (.lmul, 1) := by decide +kernel
theorem d2_11 : decode method_2_code 11 = .ok (.lstore_n 2, 1) := by decide +kernel
theorem d2_12 : decode method_2_code 12 = .ok (.lload_n 2, 1) := by decide +kernel
theorem d2_13 : decode method_2_code 13 = .ok (.ldc2_w 7, 3) := by decide +kernel
theorem d2_16 : decode method_2_code 16 = .ok (.lload_n 0, 1) := by decide +kernel
theorem d2_17 : decode method_2_code 17 = .ok (.lload_n 2, 1) := by decide +kernel
theorem d2_18 : decode method_2_code 18 = .ok (.lmul, 1) := by decide +kernel
theorem d2_19 : decode method_2_code 19 = .ok (.lsub, 1) := by decide +kernel
theorem d2_20 : decode method_2_code 20 = .ok (.lmul, 1) := by decide +kernel
theorem d2_21 : decode method_2_code 21 = .ok (.lstore_n 2, 1) := by decide +kernel
theorem d2_22 : decode method_2_code 22 = .ok (.lload_n 2, 1) := by decide +kernel
theorem d2_23 : decode method_2_code 23 = .ok (.ldc2_w 7, 3) := by decide +kernel
theorem d2_26 : decode method_2_code 26 = .ok (.lload_n 0, 1) := by decide +kernel
theorem d2_27 : decode method_2_code 27 = .ok (.lload_n 2, 1) := by decide +kernel
theorem d2_28 : decode method_2_code 28 = .ok (.lmul, 1) := by decide +kernel
theorem d2_29 : decode method_2_code 29 = .ok (.lsub, 1) := by decide +kernel
theorem d2_30 : decode method_2_code 30 = .ok (.lmul, 1) := by decide +kernel
theorem d2_31 : decode method_2_code 31 = .ok (.lstore_n 2, 1) := by decide +kernel
theorem d2_32 : decode method_2_code 32 = .ok (.lload_n 2, 1) := by decide +kernel
theorem d2_33 : decode method_2_code 33 = .ok (.ldc2_w 7, 3) := by decide +kernel
theorem d2_36 : decode method_2_code 36 = .ok (.lload_n 0, 1) := by decide +kernel
theorem d2_37 : decode method_2_code 37 = .ok (.lload_n 2, 1) := by decide +kernel
theorem d2_38 : decode method_2_code 38 = .ok (.lmul, 1) := by decide +kernel
theorem d2_39 : decode method_2_code 39 = .ok (.lsub, 1) := by decide +kernel
theorem d2_40 : decode method_2_code 40 = .ok (.lmul, 1) := by decide +kernel
theorem d2_41 : decode method_2_code 41 = .ok (.lstore_n 2, 1) := by decide +kernel
theorem d2_42 : decode method_2_code 42 = .ok (.lload_n 2, 1) := by decide +kernel
theorem d2_43 : decode method_2_code 43 = .ok (.ldc2_w 7, 3) := by decide +kernel
theorem d2_46 : decode method_2_code 46 = .ok (.lload_n 0, 1) := by decide +kernel
theorem d2_47 : decode method_2_code 47 = .ok (.lload_n 2, 1) := by decide +kernel
theorem d2_48 : decode method_2_code 48 = .ok (.lmul, 1) := by decide +kernel
theorem d2_49 : decode method_2_code 49 = .ok (.lsub, 1) := by decide +kernel
theorem d2_50 : decode method_2_code 50 = .ok (.lmul, 1) := by decide +kernel
theorem d2_51 : decode method_2_code 51 = .ok (.lstore_n 2, 1) := by decide +kernel
theorem d2_52 : decode method_2_code 52 = .ok (.lload_n 2, 1) := by decide +kernel
theorem d2_53 : decode method_2_code 53 = .ok (.lreturn, 1) := by decide +kernel
theorem ef_rm2 (m : MethodId) (u : Int64) : entryFrame m #[(.long u)] 4 = mkF m 0 #[.val (.long u), .second, .unset, .unset] [] := by first | rfl | (simp [entryFrame, mkF, argsToLocals, Value.category]; done)
def own_f2 (u : Int64) : Int64 := (((((u * ((2 : Int64) - (u * u))) * ((2 : Int64) - (u * (u * ((2 : Int64) - (u * u)))))) * ((2 : Int64) - (u * ((u * ((2 : Int64) - (u * u))) * ((2 : Int64) - (u * (u * ((2 : Int64) - (u * u))))))))) * ((2 : Int64) - (u * (((u * ((2 : Int64) - (u * u))) * ((2 : Int64) - (u * (u * ((2 : Int64) - (u * u)))))) * ((2 : Int64) - (u * ((u * ((2 : Int64) - (u * u))) * ((2 : Int64) - (u * (u * ((2 : Int64) - (u * u)))))))))))) * ((2 : Int64) - (u * ((((u * ((2 : Int64) - (u * u))) * ((2 : Int64) - (u * (u * ((2 : Int64) - (u * u)))))) * ((2 : Int64) - (u * ((u * ((2 : Int64) - (u * u))) * ((2 : Int64) - (u * (u * ((2 : Int64) - (u * u))))))))) * ((2 : Int64) - (u * (((u * ((2 : Int64) - (u * u))) * ((2 : Int64) - (u * (u * ((2 : Int64) - (u * u)))))) * ((2 : Int64) - (u * ((u * ((2 : Int64) - (u * u))) * ((2 : Int64) - (u * (u * ((2 : Int64) - (u * u)))))))))))))))
def Q2 (Z : State) (u : Int64) (h0 : Heap) (n0 : Nat) (rv : Option Value) (hq : Heap) (Lq : List Loc) : Prop := rv = some (.long (own_f2 u)) ∧ Fr n0 Lq ∧ hq = h0
set_option maxRecDepth 65536 in
set_option maxHeartbeats 40000000 in
theorem rm2 (l : Launch) (Z : State) (a0 : Array Value) (hw : ∀ d ∈ tables_1, d.before a0 Z = true) (ws : List Jvm.Cond) (u : Int64) (h0 : Heap) (n0 : Nat) (Z0 : n0 ≤ h0.size) :
    MetFree l (⟨"com/example/out_filter/outfilter/MurmurHash3FinalMixPinLaw", "inverse", "(J)J"⟩ : MethodName) (head1 (Jvm.Cond.code (⟨"com/example/out_filter/outfilter/MurmurHash3FinalMixPinLaw", "inverse", "(J)J"⟩ : MethodName) method_2_code 4 (some .long) :: ws) ({ frames := 0, cells := 0, slots := 0, locals := 0 } : Room)) (fun za U => za = #[(.long u)] ∧ Z.Warmed39 U.vm ∧ U.heap = h0) (fun _ _ _ _ _ => True) (fun _ U o U' => ∃ rv Lq, o = .returned rv ∧ Q2 Z u h0 n0 rv U'.heap Lq ∧ FrameEnd U o U' Lq ({ frames := 0, cells := 0, slots := 0, locals := 0 } : Room).cells ({ frames := 0, cells := 0, slots := 0, locals := 0 } : Room).slots) := by
  refine MetFree.of_bodySF (plainFor_of_name pn_1) hisR ?_
  intro p e s m args below meth c s₁ Bd hml0 hP hK
  obtain ⟨rfl, hZ, hh⟩ := hP
  have hx := Bd.exec
  have hby := Bd.bytes
  have hml : c.maxLocals = 4 := hml0
  have hown : s.vm.findClass "com/example/out_filter/outfilter/MurmurHash3FinalMixPinLaw" = some m.cls := findClass_of_methodNamed Bd.named
  have hnm := (name_of_methodNamed Bd.named Bd.method).1
  have X0 : Stand p l e ({ frames := 0, cells := 0, slots := 0, locals := 0 } : Room) s m #[(.long u)] below meth c s₁ [] 0 0 := Stand.of_body Bd
  have e0 : s₁.heap = h0 := by rw [← hh, Bd.state]; rfl
  have N0 := Fr.nil n0
  refine own_out (own_nm fun G hG => own_st (fun zt zk => castTop (ef_rm2 m u) zk) ?_)
  show own_Go p e below G (s₁.setTop (mkF m 0 #[.val (.long u), .second, .unset, .unset] []))
  refine own_st (fun zw zk => XS.lloadN X0.here hx rfl (hb hby d2_0) rfl zk) ?_
  refine own_st (fun zw zk => XS.lstoreN X0.here hx rfl (hb hby d2_1) rfl rfl zk) ?_
  show own_Go p e below G (s₁.setTop (mkF m 2 #[.val (.long u), .second, .val (.long u), .second] []))
  refine own_st (fun zw zk => XS.lloadN X0.here hx rfl (hb hby d2_2) rfl zk) ?_
  refine own_st (fun zw zk => X0.ldc2Long hx hown (mvT hZ (hw _ (List.mem_of_getElem? (i := 11) rfl))) (g := (mkF m 3 #[.val (.long u), .second, .val (.long u), .second] [(.long u)])) rfl (hb hby d2_3) _ zk) ?_
  refine own_st (fun zw zk => XS.lloadN X0.here hx rfl (hb hby d2_6) rfl zk) ?_
  refine own_st (fun zw zk => XS.lloadN X0.here hx rfl (hb hby d2_7) rfl zk) ?_
  refine own_st (fun zw zk => XS.lmul X0.here hx rfl (hb hby d2_8) rfl zk) ?_
  refine own_st (fun zw zk => XS.lsub X0.here hx rfl (hb hby d2_9) rfl zk) ?_
  refine own_st (fun zw zk => XS.lmul X0.here hx rfl (hb hby d2_10) rfl zk) ?_
  refine own_st (fun zw zk => XS.lstoreN X0.here hx rfl (hb hby d2_11) rfl rfl zk) ?_
  show own_Go p e below G (s₁.setTop (mkF m 12 #[.val (.long u), .second, .val (.long (u * ((2 : Int64) - (u * u)))), .second] []))
  refine own_st (fun zw zk => XS.lloadN X0.here hx rfl (hb hby d2_12) rfl zk) ?_
  refine own_st (fun zw zk => X0.ldc2Long hx hown (mvT hZ (hw _ (List.mem_of_getElem? (i := 11) rfl))) (g := (mkF m 13 #[.val (.long u), .second, .val (.long (u * ((2 : Int64) - (u * u)))), .second] [(.long (u * ((2 : Int64) - (u * u))))])) rfl (hb hby d2_13) _ zk) ?_
  refine own_st (fun zw zk => XS.lloadN X0.here hx rfl (hb hby d2_16) rfl zk) ?_
  refine own_st (fun zw zk => XS.lloadN X0.here hx rfl (hb hby d2_17) rfl zk) ?_
  refine own_st (fun zw zk => XS.lmul X0.here hx rfl (hb hby d2_18) rfl zk) ?_
  refine own_st (fun zw zk => XS.lsub X0.here hx rfl (hb hby d2_19) rfl zk) ?_
  refine own_st (fun zw zk => XS.lmul X0.here hx rfl (hb hby d2_20) rfl zk) ?_
  refine own_st (fun zw zk => XS.lstoreN X0.here hx rfl (hb hby d2_21) rfl rfl zk) ?_
  show own_Go p e below G (s₁.setTop (mkF m 22 #[.val (.long u), .second, .val (.long ((u * ((2 : Int64) - (u * u))) * ((2 : Int64) - (u * (u * ((2 : Int64) - (u * u))))))), .second] []))
  refine own_st (fun zw zk => XS.lloadN X0.here hx rfl (hb hby d2_22) rfl zk) ?_
  refine own_st (fun zw zk => X0.ldc2Long hx hown (mvT hZ (hw _ (List.mem_of_getElem? (i := 11) rfl))) (g := (mkF m 23 #[.val (.long u), .second, .val (.long ((u * ((2 : Int64) - (u * u))) * ((2 : Int64) - (u * (u * ((2 : Int64) - (u * u))))))), .second] [(.long ((u * ((2 : Int64) - (u * u))) * ((2 : Int64) - (u * (u * ((2 : Int64) - (u * u)))))))])) rfl (hb hby d2_23) _ zk) ?_
  refine own_st (fun zw zk => XS.lloadN X0.here hx rfl (hb hby d2_26) rfl zk) ?_
  refine own_st (fun zw zk => XS.lloadN X0.here hx rfl (hb hby d2_27) rfl zk) ?_
  refine own_st (fun zw zk => XS.lmul X0.here hx rfl (hb hby d2_28) rfl zk) ?_
  refine own_st (fun zw zk => XS.lsub X0.here hx rfl (hb hby d2_29) rfl zk) ?_
  refine own_st (fun zw zk => XS.lmul X0.here hx rfl (hb hby d2_30) rfl zk) ?_
  refine own_st (fun zw zk => XS.lstoreN X0.here hx rfl (hb hby d2_31) rfl rfl zk) ?_
  show own_Go p e below G (s₁.setTop (mkF m 32 #[.val (.long u), .second, .val (.long (((u * ((2 : Int64) - (u * u))) * ((2 : Int64) - (u * (u * ((2 : Int64) - (u * u)))))) * ((2 : Int64) - (u * ((u * ((2 : Int64) - (u * u))) * ((2 : Int64) - (u * (u * ((2 : Int64) - (u * u)))))))))), .second] []))
  refine own_st (fun zw zk => XS.lloadN X0.here hx rfl (hb hby d2_32) rfl zk) ?_
  refine own_st (fun zw zk => X0.ldc2Long hx hown (mvT hZ (hw _ (List.mem_of_getElem? (i := 11) rfl))) (g := (mkF m 33 #[.val (.long u), .second, .val (.long (((u * ((2 : Int64) - (u * u))) * ((2 : Int64) - (u * (u * ((2 : Int64) - (u * u)))))) * ((2 : Int64) - (u * ((u * ((2 : Int64) - (u * u))) * ((2 : Int64) - (u * (u * ((2 : Int64) - (u * u)))))))))), .second] [(.long (((u * ((2 : Int64) - (u * u))) * ((2 : Int64) - (u * (u * ((2 : Int64) - (u * u)))))) * ((2 : Int64) - (u * ((u * ((2 : Int64) - (u * u))) * ((2 : Int64) - (u * (u * ((2 : Int64) - (u * u))))))))))])) rfl (hb hby d2_33) _ zk) ?_
  refine own_st (fun zw zk => XS.lloadN X0.here hx rfl (hb hby d2_36) rfl zk) ?_
  refine own_st (fun zw zk => XS.lloadN X0.here hx rfl (hb hby d2_37) rfl zk) ?_
  refine own_st (fun zw zk => XS.lmul X0.here hx rfl (hb hby d2_38) rfl zk) ?_
  refine own_st (fun zw zk => XS.lsub X0.here hx rfl (hb hby d2_39) rfl zk) ?_
  refine own_st (fun zw zk => XS.lmul X0.here hx rfl (hb hby d2_40) rfl zk) ?_
  refine own_st (fun zw zk => XS.lstoreN X0.here hx rfl (hb hby d2_41) rfl rfl zk) ?_
  show own_Go p e below G (s₁.setTop (mkF m 42 #[.val (.long u), .second, .val (.long ((((u * ((2 : Int64) - (u * u))) * ((2 : Int64) - (u * (u * ((2 : Int64) - (u * u)))))) * ((2 : Int64) - (u * ((u * ((2 : Int64) - (u * u))) * ((2 : Int64) - (u * (u * ((2 : Int64) - (u * u))))))))) * ((2 : Int64) - (u * (((u * ((2 : Int64) - (u * u))) * ((2 : Int64) - (u * (u * ((2 : Int64) - (u * u)))))) * ((2 : Int64) - (u * ((u * ((2 : Int64) - (u * u))) * ((2 : Int64) - (u * (u * ((2 : Int64) - (u * u))))))))))))), .second] []))
  refine own_st (fun zw zk => XS.lloadN X0.here hx rfl (hb hby d2_42) rfl zk) ?_
  refine own_st (fun zw zk => X0.ldc2Long hx hown (mvT hZ (hw _ (List.mem_of_getElem? (i := 11) rfl))) (g := (mkF m 43 #[.val (.long u), .second, .val (.long ((((u * ((2 : Int64) - (u * u))) * ((2 : Int64) - (u * (u * ((2 : Int64) - (u * u)))))) * ((2 : Int64) - (u * ((u * ((2 : Int64) - (u * u))) * ((2 : Int64) - (u * (u * ((2 : Int64) - (u * u))))))))) * ((2 : Int64) - (u * (((u * ((2 : Int64) - (u * u))) * ((2 : Int64) - (u * (u * ((2 : Int64) - (u * u)))))) * ((2 : Int64) - (u * ((u * ((2 : Int64) - (u * u))) * ((2 : Int64) - (u * (u * ((2 : Int64) - (u * u))))))))))))), .second] [(.long ((((u * ((2 : Int64) - (u * u))) * ((2 : Int64) - (u * (u * ((2 : Int64) - (u * u)))))) * ((2 : Int64) - (u * ((u * ((2 : Int64) - (u * u))) * ((2 : Int64) - (u * (u * ((2 : Int64) - (u * u))))))))) * ((2 : Int64) - (u * (((u * ((2 : Int64) - (u * u))) * ((2 : Int64) - (u * (u * ((2 : Int64) - (u * u)))))) * ((2 : Int64) - (u * ((u * ((2 : Int64) - (u * u))) * ((2 : Int64) - (u * (u * ((2 : Int64) - (u * u)))))))))))))])) rfl (hb hby d2_43) _ zk) ?_
  refine own_st (fun zw zk => XS.lloadN X0.here hx rfl (hb hby d2_46) rfl zk) ?_
  refine own_st (fun zw zk => XS.lloadN X0.here hx rfl (hb hby d2_47) rfl zk) ?_
  refine own_st (fun zw zk => XS.lmul X0.here hx rfl (hb hby d2_48) rfl zk) ?_
  refine own_st (fun zw zk => XS.lsub X0.here hx rfl (hb hby d2_49) rfl zk) ?_
  refine own_st (fun zw zk => XS.lmul X0.here hx rfl (hb hby d2_50) rfl zk) ?_
  refine own_st (fun zw zk => XS.lstoreN X0.here hx rfl (hb hby d2_51) rfl rfl zk) ?_
  show own_Go p e below G (s₁.setTop (mkF m 52 #[.val (.long u), .second, .val (.long (((((u * ((2 : Int64) - (u * u))) * ((2 : Int64) - (u * (u * ((2 : Int64) - (u * u)))))) * ((2 : Int64) - (u * ((u * ((2 : Int64) - (u * u))) * ((2 : Int64) - (u * (u * ((2 : Int64) - (u * u))))))))) * ((2 : Int64) - (u * (((u * ((2 : Int64) - (u * u))) * ((2 : Int64) - (u * (u * ((2 : Int64) - (u * u)))))) * ((2 : Int64) - (u * ((u * ((2 : Int64) - (u * u))) * ((2 : Int64) - (u * (u * ((2 : Int64) - (u * u)))))))))))) * ((2 : Int64) - (u * ((((u * ((2 : Int64) - (u * u))) * ((2 : Int64) - (u * (u * ((2 : Int64) - (u * u)))))) * ((2 : Int64) - (u * ((u * ((2 : Int64) - (u * u))) * ((2 : Int64) - (u * (u * ((2 : Int64) - (u * u))))))))) * ((2 : Int64) - (u * (((u * ((2 : Int64) - (u * u))) * ((2 : Int64) - (u * (u * ((2 : Int64) - (u * u)))))) * ((2 : Int64) - (u * ((u * ((2 : Int64) - (u * u))) * ((2 : Int64) - (u * (u * ((2 : Int64) - (u * u)))))))))))))))), .second] []))
  refine own_st (fun zw zk => XS.lloadN X0.here hx rfl (hb hby d2_52) rfl zk) ?_
  subst hG
  obtain ⟨fs, hr, hrun, hended, hW, hsame⟩ := X0.leave (v := some (.long (((((u * ((2 : Int64) - (u * u))) * ((2 : Int64) - (u * (u * ((2 : Int64) - (u * u)))))) * ((2 : Int64) - (u * ((u * ((2 : Int64) - (u * u))) * ((2 : Int64) - (u * (u * ((2 : Int64) - (u * u))))))))) * ((2 : Int64) - (u * (((u * ((2 : Int64) - (u * u))) * ((2 : Int64) - (u * (u * ((2 : Int64) - (u * u)))))) * ((2 : Int64) - (u * ((u * ((2 : Int64) - (u * u))) * ((2 : Int64) - (u * (u * ((2 : Int64) - (u * u)))))))))))) * ((2 : Int64) - (u * ((((u * ((2 : Int64) - (u * u))) * ((2 : Int64) - (u * (u * ((2 : Int64) - (u * u)))))) * ((2 : Int64) - (u * ((u * ((2 : Int64) - (u * u))) * ((2 : Int64) - (u * (u * ((2 : Int64) - (u * u))))))))) * ((2 : Int64) - (u * (((u * ((2 : Int64) - (u * u))) * ((2 : Int64) - (u * (u * ((2 : Int64) - (u * u)))))) * ((2 : Int64) - (u * ((u * ((2 : Int64) - (u * u))) * ((2 : Int64) - (u * (u * ((2 : Int64) - (u * u))))))))))))))))) (fun h => by rw [Bd.returns] at h; cases h)
  refine ⟨_, own_retJ X0 hx Bd.returns (hb hby d2_53) hr, _, hrun, hended, _, _, rfl, ?_, ⟨_, rfl⟩, hW, hsame.mono (by decide) (by decide)⟩
  show Q2 Z u h0 n0 _ s₁.heap _
  rw [e0]
  exact ⟨rfl, N0, rfl⟩
theorem own_i1 : (-4265267296055464877 : Int64) * own_f2 (-4265267296055464877 : Int64) = 1 := by decide +kernel
theorem own_i2 : (-49064778989728563 : Int64) * own_f2 (-49064778989728563 : Int64) = 1 := by decide +kernel
theorem own_law (h : Int64) : own_x (own_x (own_x (own_f1 h) * own_f2 (-4265267296055464877 : Int64)) * own_f2 (-49064778989728563 : Int64)) = h := by
  have e : own_f1 h = own_x (own_x (own_x h * (-49064778989728563 : Int64)) * (-4265267296055464877 : Int64)) := rfl
  rw [e, own_xx, Int64.mul_assoc, own_i1, Int64.mul_one, own_xx, Int64.mul_assoc, own_i2, Int64.mul_one, own_xx]
theorem pd_0 : parseMethodDescriptor "(J)J" = some ⟨[.long], some .long⟩ := by decide +kernel
theorem ef_rm0 (m : MethodId) (q0 : Int64) : entryFrame m #[(.long q0)] maxLocals = mkF m 0 #[.val (.long q0), .second, .unset, .unset] [] := by first | rfl | (simp [entryFrame, mkF, argsToLocals, Value.category, maxLocals]; done)
def Q0 (Z : State) (q0 : Int64) (h0 : Heap) (n0 : Nat) (rv : Option Value) (hq : Heap) (Lq : List Loc) : Prop := rv = some (.int 1) ∧ Fr n0 Lq
set_option maxRecDepth 65536 in
set_option maxHeartbeats 40000000 in
theorem rm0 (l : Launch) (Z : State) (a0 : Array Value) (hw : ∀ d ∈ tables_1, d.before a0 Z = true) (ws : List Jvm.Cond) (q0 : Int64) (h0 : Heap) (n0 : Nat) (Z0 : n0 ≤ h0.size) :
    MetFree l x (head1 (Jvm.Cond.code x code maxLocals ret :: ws) room_1) (fun za U => za = #[(.long q0)] ∧ Z.Warmed39 U.vm ∧ U.heap = h0) (fun _ _ _ _ _ => True) (fun _ U o U' => ∃ rv Lq, o = .returned rv ∧ Q0 Z q0 h0 n0 rv U'.heap Lq ∧ FrameEnd U o U' Lq room_1.cells room_1.slots) := by
  refine MetFree.of_bodySF (plainFor_of_name pn_1) hisR ?_
  intro p e s m args below meth c s₁ Bd hml0 hP hK
  obtain ⟨rfl, hZ, hh⟩ := hP
  have hx := Bd.exec
  have hby := Bd.bytes
  have hml : c.maxLocals = 4 := hml0
  have hown : s.vm.findClass "com/example/out_filter/outfilter/MurmurHash3FinalMixPinLaw" = some m.cls := findClass_of_methodNamed Bd.named
  have hnm := (name_of_methodNamed Bd.named Bd.method).1
  have X0 : Stand p l e room_1 s m #[(.long q0)] below meth c s₁ [] 0 0 := Stand.of_body Bd
  have e0 : s₁.heap = h0 := by rw [← hh, Bd.state]; rfl
  have N0 := Fr.nil n0
  refine own_out (own_nm fun G hG => own_st (fun zt zk => castTop (ef_rm0 m q0) zk) ?_)
  show own_Go p e below G (s₁.setTop (mkF m 0 #[.val (.long q0), .second, .unset, .unset] []))
  refine own_st (fun zw zk => XS.lloadN X0.here hx rfl (hb hby at_0) rfl zk) ?_
  obtain ⟨_, _, ⟨T1, L1, k1, n1⟩, -, X1, ⟨Lc1, hQ1, l1, y1, z1⟩, st1⟩ := Jvm.LawKit.callS X0 hx (y := (⟨"com/example/out_filter/outfilter/MurmurHash3", "finalMix", "(J)J"⟩ : MethodName)) hown (mvT hZ (hw _ (List.mem_of_getElem? (i := 0) rfl))) (mvT hZ (hw _ (List.mem_of_getElem? (i := 1) rfl))) (mvT hZ (hw _ (List.mem_of_getElem? (i := 2) rfl))) (mvT hZ (hw _ (List.mem_of_getElem? (i := 3) rfl))) (by decide) (backOf (W := 0) (rm1 l Z a0 hw [] q0 h0 n0 Z0) hZ (hw _ (List.mem_of_getElem? (i := 3) rfl)) (hw _ (List.mem_of_getElem? (i := 2) rfl)) (by decide) (by decide)) (g := (mkF m 1 #[.val (.long q0), .second, .unset, .unset] [(.long q0)])) rfl (by rw [hml]; rfl) (argsL := [(.long q0)]) (rest := []) (lenOf pd_0 rfl) rfl (by show 2 * 0 + _ ≤ _; exact Nat.le_of_eq rfl) (hb hby at_1) (fun _ _ => ⟨rfl, e0, (by decide : 0 + 0 ≤ _), (by decide : 0 + 0 ≤ _)⟩)
  dsimp only [Pt.U, Pt.locs, Pt.cells, Pt.slots] at X1 l1 y1 z1 st1 hQ1
  subst l1 y1 z1
  obtain ⟨rfl, N1q, e1⟩ := hQ1
  have N1 := Fr.app N0 N1q
  refine own_st (fun zw zk => st1 zw zk) ?_
  refine own_st (fun zw zk => XS.lstoreN X1.here hx rfl (hb hby at_4) rfl rfl zk) ?_
  show own_Go p e below G (T1.setTop (mkF m 5 #[.val (.long q0), .second, .val (.long (own_f1 q0)), .second] []))
  refine own_st (fun zw zk => XS.lloadN X1.here hx rfl (hb hby at_5) rfl zk) ?_
  refine own_st (fun zw zk => XS.lloadN X1.here hx rfl (hb hby at_6) rfl zk) ?_
  refine own_st (fun zw zk => XS.bipush X1.here hx rfl (hb hby at_7) zk) ?_
  refine own_st (fun zw zk => XS.lushr X1.here hx rfl (hb hby at_9) rfl zk) ?_
  refine own_st (fun zw zk => XS.lxor X1.here hx rfl (hb hby at_10) rfl zk) ?_
  refine own_st (fun zw zk => XS.lstoreN X1.here hx rfl (hb hby at_11) rfl rfl zk) ?_
  show own_Go p e below G (T1.setTop (mkF m 12 #[.val (.long q0), .second, .val (.long ((own_f1 q0) ^^^ (((own_f1 q0).toUInt64 >>> ((33 : Int32) &&& 0x3f).toInt64.toUInt64).toInt64))), .second] []))
  refine own_st (fun zw zk => XS.lloadN X1.here hx rfl (hb hby at_12) rfl zk) ?_
  refine own_st (fun zw zk => X1.ldc2Long hx hown (mvT hZ (hw _ (List.mem_of_getElem? (i := 6) rfl))) (g := (mkF m 13 #[.val (.long q0), .second, .val (.long ((own_f1 q0) ^^^ (((own_f1 q0).toUInt64 >>> ((33 : Int32) &&& 0x3f).toInt64.toUInt64).toInt64))), .second] [(.long ((own_f1 q0) ^^^ (((own_f1 q0).toUInt64 >>> ((33 : Int32) &&& 0x3f).toInt64.toUInt64).toInt64)))])) rfl (hb hby at_13) _ zk) ?_
  obtain ⟨_, _, ⟨T2, L2, k2, n2⟩, -, X2, ⟨Lc2, hQ2, l2, y2, z2⟩, st2⟩ := Jvm.LawKit.callS X1 hx (y := (⟨"com/example/out_filter/outfilter/MurmurHash3FinalMixPinLaw", "inverse", "(J)J"⟩ : MethodName)) hown (mvT hZ (hw _ (List.mem_of_getElem? (i := 7) rfl))) (mvT hZ (hw _ (List.mem_of_getElem? (i := 8) rfl))) (mvT hZ (hw _ (List.mem_of_getElem? (i := 9) rfl))) (mvT hZ (hw _ (List.mem_of_getElem? (i := 10) rfl))) (by decide) (backOf (W := 2) (rm2 l Z a0 hw [] (-4265267296055464877 : Int64) h0 n0 Z0) hZ (hw _ (List.mem_of_getElem? (i := 10) rfl)) (hw _ (List.mem_of_getElem? (i := 9) rfl)) (by decide) (by decide)) (g := (mkF m 16 #[.val (.long q0), .second, .val (.long ((own_f1 q0) ^^^ (((own_f1 q0).toUInt64 >>> ((33 : Int32) &&& 0x3f).toInt64.toUInt64).toInt64))), .second] [(.long (-4265267296055464877 : Int64)), (.long ((own_f1 q0) ^^^ (((own_f1 q0).toUInt64 >>> ((33 : Int32) &&& 0x3f).toInt64.toUInt64).toInt64)))])) rfl (by rw [hml]; rfl) (argsL := [(.long (-4265267296055464877 : Int64))]) (rest := [(.long ((own_f1 q0) ^^^ (((own_f1 q0).toUInt64 >>> ((33 : Int32) &&& 0x3f).toInt64.toUInt64).toInt64)))]) (lenOf pd_0 rfl) rfl (by show 2 * 0 + _ ≤ _; exact Nat.le_of_eq rfl) (hb hby at_16) (fun _ _ => ⟨rfl, e1, (by decide : 0 + 0 ≤ _), (by decide : 0 + 0 ≤ _)⟩)
  dsimp only [Pt.U, Pt.locs, Pt.cells, Pt.slots] at X2 l2 y2 z2 st2 hQ2
  subst l2 y2 z2
  obtain ⟨rfl, N2q, e2⟩ := hQ2
  have N2 := Fr.app N1 N2q
  refine own_st (fun zw zk => st2 zw zk) ?_
  refine own_st (fun zw zk => XS.lmul X2.here hx rfl (hb hby at_19) rfl zk) ?_
  refine own_st (fun zw zk => XS.lstoreN X2.here hx rfl (hb hby at_20) rfl rfl zk) ?_
  show own_Go p e below G (T2.setTop (mkF m 21 #[.val (.long q0), .second, .val (.long (((own_f1 q0) ^^^ (((own_f1 q0).toUInt64 >>> ((33 : Int32) &&& 0x3f).toInt64.toUInt64).toInt64)) * (own_f2 (-4265267296055464877 : Int64)))), .second] []))
  refine own_st (fun zw zk => XS.lloadN X2.here hx rfl (hb hby at_21) rfl zk) ?_
  refine own_st (fun zw zk => XS.lloadN X2.here hx rfl (hb hby at_22) rfl zk) ?_
  refine own_st (fun zw zk => XS.bipush X2.here hx rfl (hb hby at_23) zk) ?_
  refine own_st (fun zw zk => XS.lushr X2.here hx rfl (hb hby at_25) rfl zk) ?_
  refine own_st (fun zw zk => XS.lxor X2.here hx rfl (hb hby at_26) rfl zk) ?_
  refine own_st (fun zw zk => XS.lstoreN X2.here hx rfl (hb hby at_27) rfl rfl zk) ?_
  show own_Go p e below G (T2.setTop (mkF m 28 #[.val (.long q0), .second, .val (.long ((((own_f1 q0) ^^^ (((own_f1 q0).toUInt64 >>> ((33 : Int32) &&& 0x3f).toInt64.toUInt64).toInt64)) * (own_f2 (-4265267296055464877 : Int64))) ^^^ (((((own_f1 q0) ^^^ (((own_f1 q0).toUInt64 >>> ((33 : Int32) &&& 0x3f).toInt64.toUInt64).toInt64)) * (own_f2 (-4265267296055464877 : Int64))).toUInt64 >>> ((33 : Int32) &&& 0x3f).toInt64.toUInt64).toInt64))), .second] []))
  refine own_st (fun zw zk => XS.lloadN X2.here hx rfl (hb hby at_28) rfl zk) ?_
  refine own_st (fun zw zk => X2.ldc2Long hx hown (mvT hZ (hw _ (List.mem_of_getElem? (i := 12) rfl))) (g := (mkF m 29 #[.val (.long q0), .second, .val (.long ((((own_f1 q0) ^^^ (((own_f1 q0).toUInt64 >>> ((33 : Int32) &&& 0x3f).toInt64.toUInt64).toInt64)) * (own_f2 (-4265267296055464877 : Int64))) ^^^ (((((own_f1 q0) ^^^ (((own_f1 q0).toUInt64 >>> ((33 : Int32) &&& 0x3f).toInt64.toUInt64).toInt64)) * (own_f2 (-4265267296055464877 : Int64))).toUInt64 >>> ((33 : Int32) &&& 0x3f).toInt64.toUInt64).toInt64))), .second] [(.long ((((own_f1 q0) ^^^ (((own_f1 q0).toUInt64 >>> ((33 : Int32) &&& 0x3f).toInt64.toUInt64).toInt64)) * (own_f2 (-4265267296055464877 : Int64))) ^^^ (((((own_f1 q0) ^^^ (((own_f1 q0).toUInt64 >>> ((33 : Int32) &&& 0x3f).toInt64.toUInt64).toInt64)) * (own_f2 (-4265267296055464877 : Int64))).toUInt64 >>> ((33 : Int32) &&& 0x3f).toInt64.toUInt64).toInt64)))])) rfl (hb hby at_29) _ zk) ?_
  obtain ⟨_, _, ⟨T3, L3, k3, n3⟩, -, X3, ⟨Lc3, hQ3, l3, y3, z3⟩, st3⟩ := Jvm.LawKit.callS X2 hx (y := (⟨"com/example/out_filter/outfilter/MurmurHash3FinalMixPinLaw", "inverse", "(J)J"⟩ : MethodName)) hown (mvT hZ (hw _ (List.mem_of_getElem? (i := 7) rfl))) (mvT hZ (hw _ (List.mem_of_getElem? (i := 8) rfl))) (mvT hZ (hw _ (List.mem_of_getElem? (i := 9) rfl))) (mvT hZ (hw _ (List.mem_of_getElem? (i := 10) rfl))) (by decide) (backOf (W := 2) (rm2 l Z a0 hw [] (-49064778989728563 : Int64) h0 n0 Z0) hZ (hw _ (List.mem_of_getElem? (i := 10) rfl)) (hw _ (List.mem_of_getElem? (i := 9) rfl)) (by decide) (by decide)) (g := (mkF m 32 #[.val (.long q0), .second, .val (.long ((((own_f1 q0) ^^^ (((own_f1 q0).toUInt64 >>> ((33 : Int32) &&& 0x3f).toInt64.toUInt64).toInt64)) * (own_f2 (-4265267296055464877 : Int64))) ^^^ (((((own_f1 q0) ^^^ (((own_f1 q0).toUInt64 >>> ((33 : Int32) &&& 0x3f).toInt64.toUInt64).toInt64)) * (own_f2 (-4265267296055464877 : Int64))).toUInt64 >>> ((33 : Int32) &&& 0x3f).toInt64.toUInt64).toInt64))), .second] [(.long (-49064778989728563 : Int64)), (.long ((((own_f1 q0) ^^^ (((own_f1 q0).toUInt64 >>> ((33 : Int32) &&& 0x3f).toInt64.toUInt64).toInt64)) * (own_f2 (-4265267296055464877 : Int64))) ^^^ (((((own_f1 q0) ^^^ (((own_f1 q0).toUInt64 >>> ((33 : Int32) &&& 0x3f).toInt64.toUInt64).toInt64)) * (own_f2 (-4265267296055464877 : Int64))).toUInt64 >>> ((33 : Int32) &&& 0x3f).toInt64.toUInt64).toInt64)))])) rfl (by rw [hml]; rfl) (argsL := [(.long (-49064778989728563 : Int64))]) (rest := [(.long ((((own_f1 q0) ^^^ (((own_f1 q0).toUInt64 >>> ((33 : Int32) &&& 0x3f).toInt64.toUInt64).toInt64)) * (own_f2 (-4265267296055464877 : Int64))) ^^^ (((((own_f1 q0) ^^^ (((own_f1 q0).toUInt64 >>> ((33 : Int32) &&& 0x3f).toInt64.toUInt64).toInt64)) * (own_f2 (-4265267296055464877 : Int64))).toUInt64 >>> ((33 : Int32) &&& 0x3f).toInt64.toUInt64).toInt64)))]) (lenOf pd_0 rfl) rfl (by show 2 * 0 + _ ≤ _; exact Nat.le_of_eq rfl) (hb hby at_32) (fun _ _ => ⟨rfl, e2, (by decide : 0 + 0 ≤ _), (by decide : 0 + 0 ≤ _)⟩)
  dsimp only [Pt.U, Pt.locs, Pt.cells, Pt.slots] at X3 l3 y3 z3 st3 hQ3
  subst l3 y3 z3
  obtain ⟨rfl, N3q, e3⟩ := hQ3
  have N3 := Fr.app N2 N3q
  refine own_st (fun zw zk => st3 zw zk) ?_
  refine own_st (fun zw zk => XS.lmul X3.here hx rfl (hb hby at_35) rfl zk) ?_
  refine own_st (fun zw zk => XS.lstoreN X3.here hx rfl (hb hby at_36) rfl rfl zk) ?_
  show own_Go p e below G (T3.setTop (mkF m 37 #[.val (.long q0), .second, .val (.long (((((own_f1 q0) ^^^ (((own_f1 q0).toUInt64 >>> ((33 : Int32) &&& 0x3f).toInt64.toUInt64).toInt64)) * (own_f2 (-4265267296055464877 : Int64))) ^^^ (((((own_f1 q0) ^^^ (((own_f1 q0).toUInt64 >>> ((33 : Int32) &&& 0x3f).toInt64.toUInt64).toInt64)) * (own_f2 (-4265267296055464877 : Int64))).toUInt64 >>> ((33 : Int32) &&& 0x3f).toInt64.toUInt64).toInt64)) * (own_f2 (-49064778989728563 : Int64)))), .second] []))
  refine own_st (fun zw zk => XS.lloadN X3.here hx rfl (hb hby at_37) rfl zk) ?_
  refine own_st (fun zw zk => XS.lloadN X3.here hx rfl (hb hby at_38) rfl zk) ?_
  refine own_st (fun zw zk => XS.bipush X3.here hx rfl (hb hby at_39) zk) ?_
  refine own_st (fun zw zk => XS.lushr X3.here hx rfl (hb hby at_41) rfl zk) ?_
  refine own_st (fun zw zk => XS.lxor X3.here hx rfl (hb hby at_42) rfl zk) ?_
  refine own_st (fun zw zk => XS.lstoreN X3.here hx rfl (hb hby at_43) rfl rfl zk) ?_
  show own_Go p e below G (T3.setTop (mkF m 44 #[.val (.long q0), .second, .val (.long ((((((own_f1 q0) ^^^ (((own_f1 q0).toUInt64 >>> ((33 : Int32) &&& 0x3f).toInt64.toUInt64).toInt64)) * (own_f2 (-4265267296055464877 : Int64))) ^^^ (((((own_f1 q0) ^^^ (((own_f1 q0).toUInt64 >>> ((33 : Int32) &&& 0x3f).toInt64.toUInt64).toInt64)) * (own_f2 (-4265267296055464877 : Int64))).toUInt64 >>> ((33 : Int32) &&& 0x3f).toInt64.toUInt64).toInt64)) * (own_f2 (-49064778989728563 : Int64))) ^^^ (((((((own_f1 q0) ^^^ (((own_f1 q0).toUInt64 >>> ((33 : Int32) &&& 0x3f).toInt64.toUInt64).toInt64)) * (own_f2 (-4265267296055464877 : Int64))) ^^^ (((((own_f1 q0) ^^^ (((own_f1 q0).toUInt64 >>> ((33 : Int32) &&& 0x3f).toInt64.toUInt64).toInt64)) * (own_f2 (-4265267296055464877 : Int64))).toUInt64 >>> ((33 : Int32) &&& 0x3f).toInt64.toUInt64).toInt64)) * (own_f2 (-49064778989728563 : Int64))).toUInt64 >>> ((33 : Int32) &&& 0x3f).toInt64.toUInt64).toInt64))), .second] []))
  refine own_st (fun zw zk => XS.lloadN X3.here hx rfl (hb hby at_44) rfl zk) ?_
  refine own_st (fun zw zk => XS.lloadN X3.here hx rfl (hb hby at_45) rfl zk) ?_
  refine own_st (fun zw zk => XS.lcmp X3.here hx rfl (hb hby at_46) rfl zk) ?_
  have hc47 : ((((((own_f1 q0) ^^^ (((own_f1 q0).toUInt64 >>> ((33 : Int32) &&& 0x3f).toInt64.toUInt64).toInt64)) * (own_f2 (-4265267296055464877 : Int64))) ^^^ (((((own_f1 q0) ^^^ (((own_f1 q0).toUInt64 >>> ((33 : Int32) &&& 0x3f).toInt64.toUInt64).toInt64)) * (own_f2 (-4265267296055464877 : Int64))).toUInt64 >>> ((33 : Int32) &&& 0x3f).toInt64.toUInt64).toInt64)) * (own_f2 (-49064778989728563 : Int64))) ^^^ (((((((own_f1 q0) ^^^ (((own_f1 q0).toUInt64 >>> ((33 : Int32) &&& 0x3f).toInt64.toUInt64).toInt64)) * (own_f2 (-4265267296055464877 : Int64))) ^^^ (((((own_f1 q0) ^^^ (((own_f1 q0).toUInt64 >>> ((33 : Int32) &&& 0x3f).toInt64.toUInt64).toInt64)) * (own_f2 (-4265267296055464877 : Int64))).toUInt64 >>> ((33 : Int32) &&& 0x3f).toInt64.toUInt64).toInt64)) * (own_f2 (-49064778989728563 : Int64))).toUInt64 >>> ((33 : Int32) &&& 0x3f).toInt64.toUInt64).toInt64)) = q0 := own_law q0
  refine own_st (fun zw zk => XS.ifNo X3.here hx rfl (hb hby at_47) rfl ((if0 _ _).trans (teq (own_tle hc47)).2) zk) ?_
  refine own_st (fun zw zk => XS.iconst X3.here hx rfl (hb hby at_50) zk) ?_
  refine own_st (fun zw zk => XS.goto X3.here hx rfl (pc0 := 51) (pc' := 55) rfl (hb hby at_51) (by decide) (by decide) zk) ?_
  show own_Go p e below G (T3.setTop (mkF m 55 #[.val (.long q0), .second, .val (.long ((((((own_f1 q0) ^^^ (((own_f1 q0).toUInt64 >>> ((33 : Int32) &&& 0x3f).toInt64.toUInt64).toInt64)) * (own_f2 (-4265267296055464877 : Int64))) ^^^ (((((own_f1 q0) ^^^ (((own_f1 q0).toUInt64 >>> ((33 : Int32) &&& 0x3f).toInt64.toUInt64).toInt64)) * (own_f2 (-4265267296055464877 : Int64))).toUInt64 >>> ((33 : Int32) &&& 0x3f).toInt64.toUInt64).toInt64)) * (own_f2 (-49064778989728563 : Int64))) ^^^ (((((((own_f1 q0) ^^^ (((own_f1 q0).toUInt64 >>> ((33 : Int32) &&& 0x3f).toInt64.toUInt64).toInt64)) * (own_f2 (-4265267296055464877 : Int64))) ^^^ (((((own_f1 q0) ^^^ (((own_f1 q0).toUInt64 >>> ((33 : Int32) &&& 0x3f).toInt64.toUInt64).toInt64)) * (own_f2 (-4265267296055464877 : Int64))).toUInt64 >>> ((33 : Int32) &&& 0x3f).toInt64.toUInt64).toInt64)) * (own_f2 (-49064778989728563 : Int64))).toUInt64 >>> ((33 : Int32) &&& 0x3f).toInt64.toUInt64).toInt64))), .second] [(.int (1 : Int32))]))
  subst hG
  obtain ⟨fs, hr, hrun, hended, hW, hsame⟩ := X3.leave (v := some (.int (1 : Int32))) (fun h => by rw [Bd.returns] at h; cases h)
  refine ⟨_, retN X3 hx (t := .boolean) Bd.returns (by simp) (hb hby at_55) hr, _, hrun, hended, _, _, rfl, ?_, ⟨_, rfl⟩, hW, hsame.mono (by decide) (by decide)⟩
  show Q0 Z q0 h0 n0 _ T3.heap _
  rw [e3]
  exact ⟨rfl, N3⟩
set_option maxRecDepth 65536 in
set_option maxHeartbeats 40000000 in
theorem comes_1 {Post : Tables → Env → Array Value → State → Outcome → State → Prop} (hpost : ∀ tb e args s v u, (limb_1_1.after args s (.returned v) u = true ∧ limb_1_2.after args s (.returned v) u = true ∧ True) → FrameEnd s (.returned v) u (Jvm.fieldLocs frame_1_writes args s ++ Jvm.arrayLocs frame_1_arrays args s ++ Jvm.staticLocs frame_1_statics s) 0 0 → Post tb e args s (.returned v) u) :
    ArmFor flags0 classFile x code maxLocals ret World_1 tables_1 room_1 Calls_1 rest_1 Pre_1 Post := by
  intro l hfl _ _ p e ha hc hk s m args below hf hA hF happ hP
  obtain ⟨hcalls, hrest, hpre⟩ := hP
  obtain ⟨-, -, -, hnamed, -, -, -, hat⟩ := (Spec.applies_iff hf).mp happ
  obtain ⟨hg, hn⟩ := and_e (Cond.before_iff.mp (show (Jvm.Cond.and given_1 narrow_1).before args s = true from hpre))
  obtain ⟨g1, g2⟩ := and_e hg
  obtain ⟨w0, rfl⟩ : ∃ w0 : Value, args = #[w0] := by
    have hs : args.size = 1 := by simpa [Cond.value, given_1] using g1
    obtain ⟨L⟩ := args
    match L, hs with
    | [w0], _ => exact ⟨w0, rfl⟩
  have hw := fun d (hd : d ∈ tables_1) => atoms_spec (ws := Jvm.Cond.code x code maxLocals ret :: tables_1) hat d (List.mem_cons_of_mem _ hd)
  obtain ⟨i0, ei0⟩ := isL_v g2
  obtain rfl : w0 = (.long i0) := Option.some.inj ei0
  obtain ⟨n, o, h1, h2, h3, _, L, rfl, ⟨rfl, N⟩, hq⟩ := rm0 l s _ hw tables_1 i0 s.heap s.heap.size (Nat.le_refl _) p e ha hc hk s m _ below hf ((Spec.applies_iff_loose hf).mp happ).1 ⟨rfl, State.Warmed39.refl s, rfl⟩ trivial
  refine ⟨n, _, h1, h2, h3, hpost _ _ _ _ _ _ ⟨Cond.after_iff.mpr rfl, Cond.after_iff.mpr (eq_i res_at (Term.int_eval (1)) rfl), trivial⟩ ⟨hq.1, hq.2.1, (hq.2.2.sift fun y hy => Or.inr (N y hy)).mono (by decide) (by decide)⟩⟩
theorem main_1_1 : Claimed_1_1 := comes_1 fun _ _ _ _ _ _ h hF => ⟨h.1, hF⟩
theorem main_1_2 : Claimed_1_2 := comes_1 fun _ _ _ _ _ _ h hF => ⟨h.2.1, hF⟩
end Jvm.Pilot.@@N@@
namespace Jvm.Pilot.@@N@@
open Jvm Jvm.ClassFile Sem Op Lib Jvm.Free Jvm.Stand Jvm.Pilot.@@N@@.Jvm.D
/-! MADE BY PROGRAM (witnessworld.py) out of the Statement's table words and the real class files: 7 classes; the members and pool entries that the words name. The judged class is class 1, her method 2. -/
namespace start1
open Jvm.ClassFile
def u (s : String) : CpInfo := .utf8 (stringToUtf16 s)
/-- a pool by its gaps: so many unusable entries, then the entry; so many at the end -/
def gap : Nat → List CpInfo → List CpInfo
  | 0, r => r
  | n + 1, r => .unusable :: gap n r
def poolList (es : List (Nat × CpInfo)) (last : Nat) : List CpInfo := es.foldr (fun e r => gap e.1 (e.2 :: r)) (gap last [])
def pool (es : List (Nat × CpInfo)) (last : Nat) : Array CpInfo := ⟨poolList es last⟩
def fileOf (pool : Array CpInfo) (this : Nat) (attrs : Array Attribute := #[]) (ms : Array MethodInfo := #[]) (fl : Nat := 33) (sup : Nat := 0) (ifs : Array Nat := #[]) (fds : Array FieldInfo := #[]) : ClassFile where
  minorVersion := 0
  majorVersion := 65
  constantPool := pool
  accessFlags := fl
  thisClass := this
  superClass := sup
  interfaces := ifs
  fields := fds
  methods := ms
  attributes := attrs
def plain (name : String) (sup : Option ClassId) : Class where
  name := name
  kind := .ordinary
  loader := none
  accessFlags := 33
  super := sup
  interfaces := #[]
  cf := none
  fields := #[]
  methods := #[]
  instanceTypes := #[]
  staticTypes := #[]
  resolved := #[]
  callSites := []
  init := .initialized
  statics := none
  mirror := none

def pool0 : Array CpInfo := pool [(5, u "<init>"), (0, u "()V"), (1, .class_ 10), (1, u "java/lang/Object")] 113

def k0m0 : Method := { name := "<init>", desc := "()V", sig := { parameters := [], returnType := none }, accessFlags := 1, code := none }
/-- java/lang/Object -/
def k0 : Class := { plain "java/lang/Object" none with
  accessFlags := 33
  interfaces := #[]
  cf := some (fileOf pool0 8 #[] #[{ accessFlags := 1, nameIndex := 5, descriptorIndex := 6, attributes := #[] }] 33 0 #[] #[])
  fields := #[]
  methods := #[k0m0]
  instanceTypes := #[]
  staticTypes := #[]
  resolved := Array.replicate 124 none
  statics := none }

def pool1 : Array CpInfo := pool [(2, .class_ 4), (1, u "java/lang/Object"), (0, u "<init>"), (0, u "()V"), (0, .long 2), (1, .methodref 10 11), (0, .class_ 12), (0, .nameAndType 13 14), (0, u "com/example/out_filter/outfilter/MurmurHash3"), (0, u "finalMix"), (0, u "(J)J"), (0, .long 14181476777654086739), (1, .methodref 18 19), (0, .class_ 20), (0, .nameAndType 21 14), (0, u "com/example/out_filter/outfilter/MurmurHash3FinalMixPinLaw"), (0, u "inverse"), (0, .long 18397679294719823053), (3, u "law"), (0, u "(J)Z")] 3

def k1m0 : Method := { name := "<init>", desc := "()V", sig := { parameters := [], returnType := none }, accessFlags := 2, code := none }
def k1c1 : Code := { maxStack := 8, maxLocals := 4, code := method_2_code, exceptionTable := #[], attributes := #[] }
def k1m1 : Method := { name := "inverse", desc := "(J)J", sig := { parameters := [.long], returnType := some .long }, accessFlags := 10, code := some k1c1 }
def k1c2 : Code := { maxStack := 5, maxLocals := 4, code := code, exceptionTable := #[], attributes := #[] }
def k1m2 : Method := { name := "law", desc := "(J)Z", sig := { parameters := [.long], returnType := some .boolean }, accessFlags := 9, code := some k1c2 }
/-- com/example/out_filter/outfilter/MurmurHash3FinalMixPinLaw -/
def k1 : Class := { plain "com/example/out_filter/outfilter/MurmurHash3FinalMixPinLaw" (some 0) with
  accessFlags := 49
  interfaces := #[]
  cf := some (fileOf pool1 18 #[] #[{ accessFlags := 2, nameIndex := 5, descriptorIndex := 6, attributes := #[] }, { accessFlags := 10, nameIndex := 21, descriptorIndex := 14, attributes := #[] }, { accessFlags := 9, nameIndex := 26, descriptorIndex := 27, attributes := #[] }] 49 2 #[] #[])
  fields := #[]
  methods := #[k1m0, k1m1, k1m2]
  instanceTypes := #[]
  staticTypes := #[]
  resolved := Array.replicate 31 none
  statics := none }

def pool2 : Array CpInfo := pool [(2, .class_ 4), (1, u "java/lang/Object"), (0, u "<init>"), (0, u "()V"), (1, .class_ 10), (1, u "com/example/out_filter/outfilter/MurmurHash3"), (4, u "LITTLE_ENDIAN_LONG"), (0, u "Ljava/lang/invoke/VarHandle;"), (8, u "LITTLE_ENDIAN_INT"), (30, u "(J)J"), (5, u "finalMix"), (16, .long 18397679294719823053), (1, .long 14181476777654086739), (17, u "C1"), (0, u "J"), (1, u "C2")] 10

def k2m0 : Method := { name := "<init>", desc := "()V", sig := { parameters := [], returnType := none }, accessFlags := 2, code := none }
def k2c1 : Code := { maxStack := 5, maxLocals := 4, code := prog_16_method_8_code, exceptionTable := #[], attributes := #[] }
def k2m1 : Method := { name := "finalMix", desc := "(J)J", sig := { parameters := [.long], returnType := some .long }, accessFlags := 8, code := some k2c1 }
/-- com/example/out_filter/outfilter/MurmurHash3 -/
def k2 : Class := { plain "com/example/out_filter/outfilter/MurmurHash3" (some 0) with
  accessFlags := 48
  interfaces := #[]
  cf := some (fileOf pool2 8 #[] #[{ accessFlags := 2, nameIndex := 5, descriptorIndex := 6, attributes := #[] }, { accessFlags := 8, nameIndex := 62, descriptorIndex := 56, attributes := #[] }] 48 2 #[] #[{ accessFlags := 26, nameIndex := 99, descriptorIndex := 100, attributes := #[] }, { accessFlags := 26, nameIndex := 102, descriptorIndex := 100, attributes := #[] }, { accessFlags := 26, nameIndex := 15, descriptorIndex := 16, attributes := #[] }, { accessFlags := 26, nameIndex := 25, descriptorIndex := 16, attributes := #[] }])
  fields := #[{ name := "C1", type := .long, accessFlags := 26, slot := 0, constantValue := 0 }, { name := "C2", type := .long, accessFlags := 26, slot := 1, constantValue := 0 }, { name := "LITTLE_ENDIAN_LONG", type := (.object "java/lang/invoke/VarHandle"), accessFlags := 26, slot := 2, constantValue := 0 }, { name := "LITTLE_ENDIAN_INT", type := (.object "java/lang/invoke/VarHandle"), accessFlags := 26, slot := 3, constantValue := 0 }]
  methods := #[k2m0, k2m1]
  instanceTypes := #[]
  staticTypes := #[.long, .long, (.object "java/lang/invoke/VarHandle"), (.object "java/lang/invoke/VarHandle")]
  resolved := Array.replicate 113 none
  statics := none }

def pool3 : Array CpInfo := pool [(1, u "java/lang/Cloneable"), (0, .class_ 1), (0, u "java/lang/Object"), (0, .class_ 3)] 3

/-- java/lang/Cloneable -/
def k3 : Class := { plain "java/lang/Cloneable" (some 0) with
  accessFlags := 1537
  interfaces := #[]
  cf := some (fileOf pool3 2 #[] #[] 1537 4 #[] #[])
  fields := #[]
  methods := #[]
  instanceTypes := #[]
  staticTypes := #[]
  resolved := Array.replicate 8 none
  statics := none }

def pool4 : Array CpInfo := pool [(1, u "java/io/Serializable"), (0, .class_ 1), (0, u "java/lang/Object"), (0, .class_ 3)] 3

/-- java/io/Serializable -/
def k4 : Class := { plain "java/io/Serializable" (some 0) with
  accessFlags := 1537
  interfaces := #[]
  cf := some (fileOf pool4 2 #[] #[] 1537 4 #[] #[])
  fields := #[]
  methods := #[]
  instanceTypes := #[]
  staticTypes := #[]
  resolved := Array.replicate 8 none
  statics := none }

/-- the primitive byte -/
def k5 : Class := { plain "byte" none with kind := .primitive 'B', accessFlags := 0x411 }
/-- [B -/
def k6 : Class := { plain "[B" (some 0) with kind := .array 5 .byte, interfaces := #[3, 4], accessFlags := 1041 }

def heap : Heap := #[]
def classes : Array Class := #[k0, k1, k2, k3, k4, k5, k6]
def interned : List (Array UInt16 × Addr) := []
def slotsUsed : Nat := 0
def theMethod : MethodId := ⟨1, 2⟩
def args0 : Array Value := #[.long 5]
def aboutOver (below : List Frame) : State where
  vm := { classes := classes, interned := interned.toArray }
  heap := heap
  slotsUsed := slotsUsed
  threads := #[{ frames := .invoking theMethod args0 :: below }]
def below0 : List Frame := [.native { method := ⟨0, 0⟩, args := #[] }]
def about1 : State := aboutOver below0
def p0 : Program := .bare "" "" ""
def e0 : Env := launch0.env 0 0 0
theorem w_frames : about1.frames = Frame.invoking theMethod args0 :: below0 := rfl
set_option maxRecDepth 65536 in
theorem w_args : argsFit about1.vm theMethod args0 = true := by decide +kernel
set_option maxRecDepth 65536 in
theorem w_heap : heapFits about1 = true := by decide +kernel
set_option maxRecDepth 65536 in
theorem w_runnable : about1.curStatus? = some .runnable := by decide +kernel
set_option maxRecDepth 65536 in
theorem w_alone : about1.alone = true := by decide +kernel
set_option maxRecDepth 65536 in
theorem w_named : about1.methodNamed? x = some theMethod := by decide +kernel
set_option maxRecDepth 65536 in
theorem w_hears : about1.hears theMethod below0 = true := by decide +kernel
set_option maxRecDepth 65536 in
theorem w_ripe : about1.ripe theMethod args0 below0 = true := by decide +kernel
theorem w_running : about1.status = .running := rfl
set_option maxRecDepth 65536 in
theorem w_room : about1.hasRoom e0.platform room_1 = true :=
  launch0.hasRoom_least _ room_1 (by decide +kernel) (by decide +kernel) (by decide +kernel) (by decide +kernel) (by decide +kernel) (by decide +kernel)
theorem allAtoms_all (ts : List Jvm.Cond) (a : Array Jvm.Value) (st : Jvm.State) : (allAtoms ts).before a st = ts.all (fun c => c.before a st) := by
  induction ts with
  | nil => rfl
  | cons c t ih =>
    show (Jvm.Cond.and c (allAtoms t)).before a st = _
    rw [Jvm.Cond.before_and, ih, List.all_cons]
def words1 : List Jvm.Cond := Jvm.Cond.code x code maxLocals ret :: tables_1
/-- a 'code' word, met by the world's own term for the bytes: nothing is compared byte by byte -/
theorem code_word {y : MethodName} {bytes : ByteArray} {mx : Nat} {rt : Option FieldType} {a : Array Value} {s : State} {m : MethodId} {meth : Method} {c : Code} (h1 : s.methodNamed? y = some m) (h2 : s.vm.method? m = some meth) (h3 : meth.code = some c) (h4 : c.code = bytes)
    (h5 : (c.maxLocals == mx && c.exceptionTable.isEmpty && decide (c.maxStack ≤ mostOperands) && decide (meth.sig.returnType = rt) && !meth.locks && decide (parseMethodDescriptor y.desc = some meth.sig)) = true) : (Jvm.Cond.code y bytes mx rt).before a s = true := by
  simp only [Bool.and_eq_true, beq_iff_eq, Bool.not_eq_true', decide_eq_true_eq] at h5
  obtain ⟨⟨⟨⟨⟨g1, g2⟩, g3⟩, g4⟩, g5⟩, g6⟩ := h5
  simp [Cond.before, Cond.holds, Cond.value, h1, h2, h3, h4, g1, g2, g3, g4, g5, g6]
def isCode : Jvm.Cond → Bool
  | .code _ _ _ _ => true
  | _ => false
theorem all_split {L : List Jvm.Cond} {P : Jvm.Cond → Bool} (h1 : L.all (fun c => isCode c || P c) = true) (h2 : ∀ c ∈ L.filter isCode, P c = true) : L.all P = true := by
  refine List.all_eq_true.mpr fun c hc => ?_
  have h := List.all_eq_true.mp h1 c hc
  rcases Bool.eq_false_or_eq_true (isCode c) with hi | hi
  · exact h2 c (List.mem_filter.mpr ⟨hc, hi⟩)
  · simpa [hi] using h
set_option maxRecDepth 65536 in
theorem w_c0 : (Jvm.Cond.code x code maxLocals ret).before args0 about1 = true := code_word (m := ⟨1, 2⟩) (meth := k1m2) (c := k1c2) (by decide +kernel) rfl rfl rfl (by decide +kernel)
set_option maxRecDepth 65536 in
theorem w_c1 : (Jvm.Cond.code ({ cls := "com/example/out_filter/outfilter/MurmurHash3", name := "finalMix", desc := "(J)J" } : Jvm.MethodName) prog_16_method_8_code (4 : Nat) (Option.some Jvm.ClassFile.FieldType.long)).before args0 about1 = true := code_word (m := ⟨2, 1⟩) (meth := k2m1) (c := k2c1) (by decide +kernel) rfl rfl rfl (by decide +kernel)
set_option maxRecDepth 65536 in
theorem w_c2 : (Jvm.Cond.code ({ cls := "com/example/out_filter/outfilter/MurmurHash3FinalMixPinLaw", name := "inverse", desc := "(J)J" } : Jvm.MethodName) method_2_code (4 : Nat) (Option.some Jvm.ClassFile.FieldType.long)).before args0 about1 = true := code_word (m := ⟨1, 1⟩) (meth := k1m1) (c := k1c1) (by decide +kernel) rfl rfl rfl (by decide +kernel)
def codes1 : List Jvm.Cond := [Jvm.Cond.code x code maxLocals ret, Jvm.Cond.code ({ cls := "com/example/out_filter/outfilter/MurmurHash3", name := "finalMix", desc := "(J)J" } : Jvm.MethodName) prog_16_method_8_code (4 : Nat) (Option.some Jvm.ClassFile.FieldType.long), Jvm.Cond.code ({ cls := "com/example/out_filter/outfilter/MurmurHash3FinalMixPinLaw", name := "inverse", desc := "(J)J" } : Jvm.MethodName) method_2_code (4 : Nat) (Option.some Jvm.ClassFile.FieldType.long)]
set_option maxRecDepth 65536 in
theorem codes_eq : words1.filter isCode = codes1 := rfl
theorem w_codes : ∀ c ∈ words1.filter isCode, c.before args0 about1 = true := by
  rw [codes_eq]
  intro c hc
  simp only [codes1, List.mem_cons, List.not_mem_nil, or_false] at hc
  rcases hc with rfl | rfl | rfl
  · exact w_c0
  · exact w_c1
  · exact w_c2
set_option maxRecDepth 65536 in
theorem w_t1 : words1.all (fun c => isCode c || c.before args0 about1) = true := by decide +kernel
theorem w_tables : (allAtoms (Jvm.Cond.code x code maxLocals ret :: tables_1)).before args0 about1 = true := by
  rw [allAtoms_all]
  show words1.all (fun c => c.before args0 about1) = true
  refine all_split ?_ w_codes
  rw [w_t1]
set_option maxRecDepth 65536 in
theorem w_case : (Jvm.Cond.and given_1 narrow_1).before args0 about1 = true := by decide +kernel
theorem w_applies : (headSpec (Jvm.Cond.code x code maxLocals ret :: tables_1) room_1).applies x e0.platform about1 = true :=
  (Spec.applies_iff w_frames).mpr ⟨w_running, w_runnable, w_alone, w_named, w_hears, w_ripe, w_room, w_tables⟩
theorem atStart : AtStart classFile x code maxLocals ret World_1 tables_1 room_1 Calls_1 rest_1 Pre_1 launch0 p0 e0 about1 theMethod args0 below0 :=
  ⟨lists_1, trivial, launch0.admits_env _ _ _, launch0.least_env, fairChoices_fair.cas, fairChoices_fair.clock, w_frames, w_args, w_heap, w_applies, trivial, trivial, w_case⟩
end start1
theorem witness_1 : WitnessClaimed_1 := ⟨start1.p0, start1.e0, start1.about1, start1.theMethod, start1.args0, start1.below0, start1.atStart⟩
end Jvm.Pilot.@@N@@
