import JvmDerived
import JvmDerived.Pilot.@@N@@Statement
import JvmDerived.Pilot.@@N@@Code
set_option linter.unusedVariables false
set_option linter.unusedSimpArgs false
namespace Jvm.Pilot.@@N@@
open Jvm Jvm.ClassFile Sem Op Lib Jvm.Free Jvm.Stand Jvm.LawKit Jvm.RoadKit Bundle Jvm.Pilot.@@N@@.Jvm.D
/-! own_Go: from t the run comes to a state where G holds. A walk is written backwards from the goal, so that a case split may stand anywhere. -/
def own_Go (p : Program) (e : Env) (below : List Frame) (G : State → Prop) (t : State) : Prop := ∃ u, Steps p.tables e below t u ∧ G u
theorem own_st {p : Program} {e : Env} {below : List Frame} {G : State → Prop} {t u : State} (f : ∀ w, Steps p.tables e below u w → Steps p.tables e below t w) (k : own_Go p e below G u) : own_Go p e below G t := by
  obtain ⟨w, s, g⟩ := k
  exact ⟨w, f w s, g⟩
theorem own_jp {p : Program} {e : Env} {below : List Frame} {G : State → Prop} {t u : State} (f : Steps p.tables e below t u) (k : own_Go p e below G u) : own_Go p e below G t := by
  obtain ⟨w, s, g⟩ := k
  exact ⟨w, f.trans s, g⟩
theorem own_out {p : Program} {e : Env} {below : List Frame} {t : State} {Q : Outcome → State → Prop} (k : own_Go p e below (fun u => ∃ o, u.status = .running ∧ Ended u below o ∧ Q o u) t) : ∃ s₂ o, Steps p.tables e below t s₂ ∧ s₂.status = .running ∧ Ended s₂ below o ∧ Q o s₂ := by
  obtain ⟨w, s, o, g⟩ := k
  exact ⟨w, o, s, g⟩
theorem own_nm {p : Program} {e : Env} {below : List Frame} {G0 : State → Prop} {t : State} (k : ∀ G, G = G0 → own_Go p e below G t) : own_Go p e below G0 t := k _ rfl
theorem own_tll {x y : Int64} (h : x < y) : lcmpW x y < 0 := (lw_lt x y).mpr h
theorem own_fll {x y : Int64} (h : ¬ x < y) : ¬ lcmpW x y < 0 := fun q => h ((lw_lt x y).mp q)
theorem own_tlg {x y : Int64} (h : y < x) : 0 < lcmpW x y := (lw_gt x y).mpr h
theorem own_flg {x y : Int64} (h : ¬ y < x) : ¬ 0 < lcmpW x y := fun q => h ((lw_gt x y).mp q)
theorem own_tle {x y : Int64} (h : x = y) : lcmpW x y = 0 := (lw_eq x y).mpr h
theorem own_fle {x y : Int64} (h : ¬ x = y) : ¬ lcmpW x y = 0 := fun q => h ((lw_eq x y).mp q)
section Own
variable {p : Program} {l : Launch} {e : Env} {R : Room} {s : State} {m : MethodId} {args : Array Value} {below : List Frame} {meth : Method} {c : Code} {T : State} {locs : List Loc} {cells slots : Nat} {Z : State} {h h' : Heap} {a b : Addr} {ty : FieldType} {vs : List Value} {v : Value}
theorem own_retI (X : Stand p l e R s m args below meth c T locs cells slots) (hx : p.tables.exec = Jvm.exec) {pc : Nat} {Ls : Array Slot} {z : Int32} {rest : List Value} (hret : meth.sig.returnType = some .int) (hd : decode c.code pc = .ok (.ireturn, 1)) {fs : List Frame}
    (hl : ∀ (f : JFrame) (acts : List Action), f.method = m → f.locked = none → f.entered = [] → (doReturn e (T.setTop f) acts (some (.int z))).1 = T.setFrames fs) : Steps p.tables e below (T.setTop (mkF m pc Ls (.int z :: rest))) (T.setFrames fs) :=
  retOut X hx hret rfl (Or.inl ⟨rfl, Or.inl rfl, z, rfl⟩) hd hl
theorem own_retJ (X : Stand p l e R s m args below meth c T locs cells slots) (hx : p.tables.exec = Jvm.exec) {pc : Nat} {Ls : Array Slot} {z : Int64} {rest : List Value} (hret : meth.sig.returnType = some .long) (hd : decode c.code pc = .ok (.lreturn, 1)) {fs : List Frame}
    (hl : ∀ (f : JFrame) (acts : List Action), f.method = m → f.locked = none → f.entered = [] → (doReturn e (T.setTop f) acts (some (.long z))).1 = T.setFrames fs) : Steps p.tables e below (T.setTop (mkF m pc Ls (.long z :: rest))) (T.setFrames fs) :=
  retOut X hx hret rfl (Or.inr (Or.inl ⟨rfl, rfl, z, rfl⟩)) hd hl
/-! own_L: the array at a holds just the list vs -/
def own_L (Z : State) (h : Heap) (a : Addr) (ty : FieldType) (vs : List Value) : Prop := ∃ cl : Cell, Arr Z h a cl ty ∧ cl.slots = vs.toArray
theorem own_L.lt (F : own_L Z h a ty vs) : a < h.size := by obtain ⟨cl, A, -⟩ := F; exact A.lt
theorem own_L.ext (F : own_L Z h a ty vs) (E : Ext h h') : own_L Z h' a ty vs := by obtain ⟨cl, A, q⟩ := F; exact ⟨cl, A.ext E, q⟩
theorem own_L.other {sl : Nat} (F : own_L Z h b ty vs) (W : Wr h h' a sl v) (q : b ≠ a) : own_L Z h' b ty vs := by obtain ⟨cl, A, r⟩ := F; exact ⟨cl, A.other W q, r⟩
theorem own_L.keep {ws : List Addr} (F : own_L Z h a ty vs) (K : Keep h h' ws) (q : a ∉ ws) : own_L Z h' a ty vs := by obtain ⟨cl, A, r⟩ := F; exact ⟨cl, ⟨K.2.1 a cl A.1 q, A.2⟩, r⟩
theorem own_L.new {k : ClassId} {z : Int32} (A : Arr Z h a (newA k ty z) ty) : own_L Z h a ty (List.replicate z.toNatClampNeg (defaultValue ty)) := ⟨_, A, by simp [newA]⟩
theorem own_L.same {k : Nat} (F : own_L Z h a ty vs) (W : Wr h h' a k v) : own_L Z h' a ty (vs.set k v) := by
  obtain ⟨cl, A, q⟩ := F
  exact ⟨_, A.same W, by simp [Cell.setSlot, q]⟩
theorem own_in {cl : Cell} {j : Int32} (q : cl.slots = vs.toArray) (h1 : ¬ j < 0) (h2 : j.toNatClampNeg < vs.length) : ¬ (j < 0 ∨ cl.slots.size ≤ j.toNatClampNeg) := by
  rw [q]
  rintro (r | r)
  · exact h1 r
  · simp at r; omega
theorem own_at {cl : Cell} {k : Nat} (q : cl.slots = vs.toArray) (hv : vs[k]? = some v) : cl.slots[k]? = some v := by rw [q]; simpa using hv
theorem own_lt {k : Nat} (hv : vs[k]? = some v) : k < vs.length := by
  obtain ⟨q, -⟩ := List.getElem?_eq_some_iff.mp hv
  exact q
theorem own_bld (X : Stand p l e R s m args below meth c T locs cells slots) (hx : p.tables.exec = Jvm.exec) (hZ : Z.Warmed39 s.vm) (eT : T.heap = h) (F : own_L Z h a .byte vs) {j : Int32} {i : Nat} (h1 : ¬ j < 0) (hi : j.toNatClampNeg = i) (hv : vs[i]? = some v) {g : JFrame} (hg : g.method = m) {rest : List Value} (hs : g.stack = .int j :: .ref a :: rest) (hd : decode c.code g.pc = .ok (.baload, 1)) :
    ∀ target, Steps p.tables e below (T.setTop { g with pc := g.pc + 1, stack := v :: rest }) target → Steps p.tables e below (T.setTop g) target := by
  obtain ⟨cl, A, q⟩ := F
  subst hi
  exact X.baloadBytes hx (by rw [eT]; exact A.1) (State.isArrayOf_alike hZ.alike A.2.1) A.2.2 (own_in q h1 (own_lt hv)) (own_at q hv) hg hs hd
theorem own_jld (X : Stand p l e R s m args below meth c T locs cells slots) (hx : p.tables.exec = Jvm.exec) (hZ : Z.Warmed39 s.vm) (eT : T.heap = h) (F : own_L Z h a .long vs) {j : Int32} {i : Nat} (h1 : ¬ j < 0) (hi : j.toNatClampNeg = i) (hv : vs[i]? = some v) {g : JFrame} (hg : g.method = m) {rest : List Value} (hs : g.stack = .int j :: .ref a :: rest) (hd : decode c.code g.pc = .ok (.laload, 1)) :
    ∀ target, Steps p.tables e below (T.setTop { g with pc := g.pc + 1, stack := v :: rest }) target → Steps p.tables e below (T.setTop g) target := by
  obtain ⟨cl, A, q⟩ := F
  subst hi
  exact X.laload hx (by rw [eT]; exact A.1) (State.isArrayOf_alike hZ.alike A.2.1) A.2.2 (own_in q h1 (own_lt hv)) (own_at q hv) hg hs hd
theorem own_ild (X : Stand p l e R s m args below meth c T locs cells slots) (hx : p.tables.exec = Jvm.exec) (hZ : Z.Warmed39 s.vm) (eT : T.heap = h) (F : own_L Z h a .int vs) {j : Int32} {i : Nat} (h1 : ¬ j < 0) (hi : j.toNatClampNeg = i) (hv : vs[i]? = some v) {g : JFrame} (hg : g.method = m) {rest : List Value} (hs : g.stack = .int j :: .ref a :: rest) (hd : decode c.code g.pc = .ok (.iaload, 1)) :
    ∀ target, Steps p.tables e below (T.setTop { g with pc := g.pc + 1, stack := v :: rest }) target → Steps p.tables e below (T.setTop g) target := by
  obtain ⟨cl, A, q⟩ := F
  subst hi
  exact X.iaload hx (by rw [eT]; exact A.1) (State.isArrayOf_alike hZ.alike A.2.1) A.2.2 (own_in q h1 (own_lt hv)) (own_at q hv) hg hs hd
theorem own_zld (X : Stand p l e R s m args below meth c T locs cells slots) (hx : p.tables.exec = Jvm.exec) (hZ : Z.Warmed39 s.vm) (eT : T.heap = h) (F : own_L Z h a .boolean vs) {j : Int32} {i : Nat} (h1 : ¬ j < 0) (hi : j.toNatClampNeg = i) (hv : vs[i]? = some v) {g : JFrame} (hg : g.method = m) {rest : List Value} (hs : g.stack = .int j :: .ref a :: rest) (hd : decode c.code g.pc = .ok (.baload, 1)) :
    ∀ target, Steps p.tables e below (T.setTop { g with pc := g.pc + 1, stack := v :: rest }) target → Steps p.tables e below (T.setTop g) target := by
  obtain ⟨cl, A, q⟩ := F
  subst hi
  exact X.baloadBooleans hx (by rw [eT]; exact A.1) (State.isArrayOf_alike hZ.alike A.2.1) A.2.2 (own_in q h1 (own_lt hv)) (own_at q hv) hg hs hd
theorem own_len (X : Stand p l e R s m args below meth c T locs cells slots) (hx : p.tables.exec = Jvm.exec) (hZ : Z.Warmed39 s.vm) (eT : T.heap = h) (F : own_L Z h a ty vs) {z : Int32} (hz : vs.length.toInt32 = z) {g : JFrame} (hg : g.method = m) {rest : List Value} (hs : g.stack = .ref a :: rest) (hd : decode c.code g.pc = .ok (.arraylength, 1)) :
    ∀ target, Steps p.tables e below (T.setTop { g with pc := g.pc + 1, stack := .int z :: rest }) target → Steps p.tables e below (T.setTop g) target := by
  obtain ⟨cl, A, q⟩ := F
  intro w k
  refine X.arraylength hx (by rw [eT]; exact A.1) (State.isArrayOf_alike hZ.alike A.2.1) hg hs hd w ?_
  have q2 : cl.slots.size.toInt32 = z := by rw [← hz, q]; simp
  rw [q2]; exact k
theorem own_bst (X : Stand p l e R s m args below meth c T locs cells slots) (hx : p.tables.exec = Jvm.exec) (hZ : Z.Warmed39 s.vm) (eT : T.heap = h) (F : own_L Z h a .byte vs) {j x : Int32} (i : Nat) (h1 : ¬ j < 0) (hi : j.toNatClampNeg = i) (h2 : i < vs.length) {g : JFrame} (hg : g.method = m) {rest : List Value} (hs : g.stack = .int x :: .int j :: .ref a :: rest) (hd : decode c.code g.pc = .ok (.bastore, 1)) :
    ∃ T' h', Stand p l e R s m args below meth c T' (locs ++ [⟨a, i⟩]) cells slots ∧ T'.heap = h' ∧ Wr h h' a i (.int x.toInt8.toInt32) ∧ own_L Z h' a .byte (vs.set i (.int x.toInt8.toInt32)) ∧ ∀ target, Steps p.tables e below (T'.setTop { g with pc := g.pc + 1, stack := rest }) target → Steps p.tables e below (T.setTop g) target := by
  obtain ⟨cl, A, q⟩ := F
  subst hi
  obtain ⟨T', h', X', e', W, st⟩ := stB X hx hZ eT A (own_in q h1 h2) hg hs hd
  exact ⟨T', h', X', e', W, own_L.same ⟨cl, A, q⟩ W, st⟩
theorem own_zst (X : Stand p l e R s m args below meth c T locs cells slots) (hx : p.tables.exec = Jvm.exec) (hZ : Z.Warmed39 s.vm) (eT : T.heap = h) (F : own_L Z h a .boolean vs) {j x : Int32} (i : Nat) (h1 : ¬ j < 0) (hi : j.toNatClampNeg = i) (h2 : i < vs.length) {g : JFrame} (hg : g.method = m) {rest : List Value} (hs : g.stack = .int x :: .int j :: .ref a :: rest) (hd : decode c.code g.pc = .ok (.bastore, 1)) :
    ∃ T' h', Stand p l e R s m args below meth c T' (locs ++ [⟨a, i⟩]) cells slots ∧ T'.heap = h' ∧ Wr h h' a i (.int (x &&& 1)) ∧ own_L Z h' a .boolean (vs.set i (.int (x &&& 1))) ∧ ∀ target, Steps p.tables e below (T'.setTop { g with pc := g.pc + 1, stack := rest }) target → Steps p.tables e below (T.setTop g) target := by
  obtain ⟨cl, A, q⟩ := F
  subst hi
  obtain ⟨T', h', X', e', W, st⟩ := stZ X hx hZ eT A (own_in q h1 h2) hg hs hd
  exact ⟨T', h', X', e', W, own_L.same ⟨cl, A, q⟩ W, st⟩
theorem own_jst (X : Stand p l e R s m args below meth c T locs cells slots) (hx : p.tables.exec = Jvm.exec) (hZ : Z.Warmed39 s.vm) (eT : T.heap = h) (F : own_L Z h a .long vs) {j : Int32} {x : Int64} (i : Nat) (h1 : ¬ j < 0) (hi : j.toNatClampNeg = i) (h2 : i < vs.length) {g : JFrame} (hg : g.method = m) {rest : List Value} (hs : g.stack = .long x :: .int j :: .ref a :: rest) (hd : decode c.code g.pc = .ok (.lastore, 1)) :
    ∃ T' h', Stand p l e R s m args below meth c T' (locs ++ [⟨a, i⟩]) cells slots ∧ T'.heap = h' ∧ Wr h h' a i (.long x) ∧ own_L Z h' a .long (vs.set i (.long x)) ∧ ∀ target, Steps p.tables e below (T'.setTop { g with pc := g.pc + 1, stack := rest }) target → Steps p.tables e below (T.setTop g) target := by
  obtain ⟨cl, A, q⟩ := F
  subst hi
  obtain ⟨T', h', X', e', W, st⟩ := stJ X hx hZ eT A (own_in q h1 h2) hg hs hd
  exact ⟨T', h', X', e', W, own_L.same ⟨cl, A, q⟩ W, st⟩
theorem own_ist (X : Stand p l e R s m args below meth c T locs cells slots) (hx : p.tables.exec = Jvm.exec) (hZ : Z.Warmed39 s.vm) (eT : T.heap = h) (F : own_L Z h a .int vs) {j x : Int32} (i : Nat) (h1 : ¬ j < 0) (hi : j.toNatClampNeg = i) (h2 : i < vs.length) {g : JFrame} (hg : g.method = m) {rest : List Value} (hs : g.stack = .int x :: .int j :: .ref a :: rest) (hd : decode c.code g.pc = .ok (.iastore, 1)) :
    ∃ T' h', Stand p l e R s m args below meth c T' (locs ++ [⟨a, i⟩]) cells slots ∧ T'.heap = h' ∧ Wr h h' a i (.int x) ∧ own_L Z h' a .int (vs.set i (.int x)) ∧ ∀ target, Steps p.tables e below (T'.setTop { g with pc := g.pc + 1, stack := rest }) target → Steps p.tables e below (T.setTop g) target := by
  obtain ⟨cl, A, q⟩ := F
  subst hi
  obtain ⟨T', h', X', e', W, st⟩ := stI X hx hZ eT A (own_in q h1 h2) hg hs hd
  exact ⟨T', h', X', e', W, own_L.same ⟨cl, A, q⟩ W, st⟩
theorem own_clone (X : Stand p l e R s m args below meth c T locs cells slots) (hx : p.tables.exec = Jvm.exec) (hZ : Z.Warmed39 s.vm) {a0 : Array Value} {own ad : String} {index : Nat} (hown : s.vm.findClass own = some m.cls)
    (w1 : (Cond.methodLink own index ⟨ad, "clone", "()Ljava/lang/Object;"⟩).before a0 Z = true) (w2 : (Cond.sameMethod ad "java/lang/Object" "clone" "()Ljava/lang/Object;").before a0 Z = true) (w3 : (Cond.native ⟨"java/lang/Object", "clone", "()Ljava/lang/Object;"⟩).before a0 Z = true)
    (w4 : (Cond.instanceMethod ⟨"java/lang/Object", "clone", "()Ljava/lang/Object;"⟩).before a0 Z = true) (w5 : (Cond.selects ad ⟨ad, "clone", "()Ljava/lang/Object;"⟩ ⟨"java/lang/Object", "clone", "()Ljava/lang/Object;"⟩).before a0 Z = true) (w6 : (Cond.castable ad "java/lang/Cloneable").before a0 Z = true)
    (eT : T.heap = h) (F : own_L Z h a ty vs) (E : Exa Z h a ad) (hfit : ∀ v ∈ vs, fits ty v = true) {g : JFrame} (hg : g.method = m) (hsize : g.locals.size = c.maxLocals) {rest : List Value} (hs : g.stack = .ref a :: rest) (hd : decode c.code g.pc = .ok (.invokevirtual index, 3))
    (hf : 1 ≤ R.frames) {W cap : Nat} (hW : 2 * g.monitorRoom + (rest.map fun v => v.category).sum ≤ W) (hl : W + 14 ≤ R.locals) (hcap : vs.length ≤ cap) (hc : cells + 1 ≤ R.cells) (hsl : slots + cap ≤ R.slots) :
    ∃ T' h', Stand p l e R s m args below meth c T' locs (cells + 1) (slots + cap) ∧ T'.heap = h' ∧ Ext h h' ∧ own_L Z h' h.size ty vs ∧ Exa Z h' h.size ad ∧
      ∀ target, Steps p.tables e below (T'.setTop { g with pc := g.pc + 3, stack := .ref h.size :: rest }) target → Steps p.tables e below (T.setTop g) target := by
  obtain ⟨cl, A, q⟩ := F
  have FC : FitC Z cl := fitC_of A fun i hi v hv => hfit v (by
    rw [q] at hv
    exact List.mem_of_getElem? (by simpa using hv))
  obtain ⟨T', h', X', e', ex, A', E', st⟩ := cloneA X hx hZ hown w1 w2 w3 w4 w5 w6 eT A E FC hg hsize hs hd hf hW hl (by rw [q]; simpa using hcap) hc hsl
  exact ⟨T', h', X', e', ex, ⟨cloneOf cl, A', q⟩, E', st⟩
end Own
theorem own_sm (q : Int32) (k : Nat) (hk : q.toBitVec.toNat % 64 = k) : (q &&& 0x3f).toInt64.toBitVec = BitVec.ofNat 64 k ∧ k < 64 := by
  have hk' : k < 64 := by omega
  refine ⟨?_, hk'⟩
  have h1 : (q &&& 0x3f).toBitVec = BitVec.ofNat 32 k := by
    apply BitVec.eq_of_toNat_eq
    have : (q &&& 0x3f).toBitVec = q.toBitVec &&& 0x3f#32 := rfl
    rw [this, BitVec.toNat_and]
    have e : (0x3f#32).toNat = 2^6 - 1 := rfl
    rw [e, Nat.and_two_pow_sub_one_eq_mod, BitVec.toNat_ofNat]
    omega
  show ((q &&& 0x3f).toBitVec).signExtend 64 = _
  rw [h1]
  have hm : (BitVec.ofNat 32 k).msb = false := by
    rw [BitVec.msb_eq_decide]; simp; omega
  rw [BitVec.signExtend_eq_setWidth_of_msb_false hm]
  apply BitVec.eq_of_toNat_eq
  simp
  omega
theorem own_smod (k : Nat) (h : k < 64) : ((BitVec.ofNat 64 k).smod 64#64).toNat = k := by
  have : ∀ k : Fin 64, ((BitVec.ofNat 64 k.val).smod 64#64).toNat = k.val := by decide
  exact this ⟨k, h⟩
theorem own_lushr (x : Int64) (q : Int32) (k : Nat) (hk : q.toBitVec.toNat % 64 = k) : ((x.toUInt64 >>> (q &&& 0x3f).toInt64.toUInt64).toInt64).toBitVec = x.toBitVec >>> k := by
  obtain ⟨h, hk'⟩ := own_sm q k hk
  show (x.toBitVec >>> ((q &&& 0x3f).toInt64.toBitVec % 64#64).toNat) = _
  rw [h]
  congr 1
  simp
  omega
theorem own_lshl (x : Int64) (q : Int32) (k : Nat) (hk : q.toBitVec.toNat % 64 = k) : (x <<< (q &&& 0x3f).toInt64).toBitVec = x.toBitVec <<< k := by
  obtain ⟨h, hk'⟩ := own_sm q k hk
  show (x.toBitVec <<< ((q &&& 0x3f).toInt64.toBitVec.smod 64#64).toNat) = _
  rw [h, own_smod k hk']
theorem own_lshr (x : Int64) (q : Int32) (k : Nat) (hk : q.toBitVec.toNat % 64 = k) : (x >>> (q &&& 0x3f).toInt64).toBitVec = x.toBitVec.sshiftRight k := by
  obtain ⟨h, hk'⟩ := own_sm q k hk
  show (x.toBitVec.sshiftRight ((q &&& 0x3f).toInt64.toBitVec.smod 64#64).toNat) = _
  rw [h, own_smod k hk']
def own_small (x : Int64) : Prop := x.toBitVec.toNat < 4294967296
theorem own_smI {x : Int64} (h : own_small x) : x.toInt = x.toBitVec.toNat := by
  show x.toBitVec.toInt = _
  unfold own_small at h
  rw [BitVec.toInt_eq_toNat_cond, if_pos (by omega)]
theorem own_smOr {x y : Int64} (hx : own_small x) (hy : own_small y) : own_small (x ||| y) := by
  unfold own_small at *
  show (x.toBitVec ||| y.toBitVec).toNat < _
  rw [BitVec.toNat_or]
  exact Nat.or_lt_two_pow (n := 32) hx hy
theorem own_or0 (x y : Int64) : x ||| y = 0 ↔ x = 0 ∧ y = 0 := by
  rw [← Int64.toBitVec_inj, ← Int64.toBitVec_inj, ← Int64.toBitVec_inj]
  show x.toBitVec ||| y.toBitVec = 0#64 ↔ x.toBitVec = 0#64 ∧ y.toBitVec = 0#64
  constructor
  · intro h
    constructor
    · apply BitVec.eq_of_getLsbD_eq
      intro i hi
      have := congrArg (fun z : BitVec 64 => z.getLsbD i) h
      simp only [BitVec.getLsbD_or, BitVec.getLsbD_zero, Bool.or_eq_false_iff] at this
      rw [this.1]; simp
    · apply BitVec.eq_of_getLsbD_eq
      intro i hi
      have := congrArg (fun z : BitVec 64 => z.getLsbD i) h
      simp only [BitVec.getLsbD_or, BitVec.getLsbD_zero, Bool.or_eq_false_iff] at this
      rw [this.2]; simp
  · rintro ⟨h1, h2⟩
    rw [h1, h2]; simp
theorem own_sm0 : own_small 0 := by unfold own_small; decide
theorem own_smL (x : Int64) : own_small (x &&& (4294967295 : Int64)) := by
  unfold own_small
  show (x.toBitVec &&& 4294967295#64).toNat < _
  rw [BitVec.toNat_and]
  have : (4294967295#64).toNat = 2 ^ 32 - 1 := rfl
  rw [this, Nat.and_two_pow_sub_one_eq_mod]
  exact Nat.mod_lt _ (by decide)
theorem own_smH (x : Int64) : own_small ((x.toUInt64 >>> ((32 : Int32) &&& 0x3f).toInt64.toUInt64).toInt64) := by
  unfold own_small
  rw [own_lushr x 32 32 (by decide), BitVec.toNat_ushiftRight, Nat.shiftRight_eq_div_pow]
  have := x.toBitVec.isLt
  omega
theorem own_fin {o : Int64} (h : own_small o) : ((o - (1 : Int64)) >>> ((63 : Int32) &&& 0x3f).toInt64) = if o = 0 then (-1 : Int64) else 0 := by
  by_cases q : o = 0
  · rw [if_pos q, q]; decide
  · rw [if_neg q]
    have h1 := own_smI h
    have h2 := c_lsub o 1
    have h3 := rng64 (o - 1)
    have h4 := c_lshr (o - 1) 63 63 (by decide)
    have z1 : (1 : Int64).toInt = 1 := by decide
    have z0 : (0 : Int64).toInt = 0 := by decide
    have h5 : o.toInt ≠ 0 := fun e => q (Int64.toInt_inj.mp (e.trans z0.symm))
    unfold own_small at h
    apply Int64.toInt_inj.mp
    rw [h4, z0]
    rw [z1] at h2
    have : (2 ^ 63 : Nat) = 9223372036854775808 := rfl
    rw [this]
    omega
theorem pn_0 : plainName "com/example/attestrum/attestrum/schemes/ec/P256FieldZeroMaskPinLaw" = true := by first | (simp [plainName, overriddenIn]; done) | decide +kernel
theorem d1_0 : decode method_2_code 0 = .ok (.iload_n 2, 1) := by decide +kernel
theorem d1_1 : decode method_2_code 1 = .ok (.iload_n 3, 1) := by decide +kernel
theorem d1_2 : decode method_2_code 2 = .ok (.ishr, 1) := by decide +kernel
theorem d1_3 : decode method_2_code 3 = .ok (.iconst 1, 1) := by decide +kernel
theorem d1_4 : decode method_2_code 4 = .ok (.iand, 1) := by decide +kernel
theorem d1_5 : decode method_2_code 5 = .ok (.ifCond .eq 5, 3) := by decide +kernel
theorem d1_8 : decode method_2_code 8 = .ok (.lconst 0, 1) := by decide +kernel
theorem d1_9 : decode method_2_code 9 = .ok (.lreturn, 1) := by decide +kernel
theorem d1_10 : decode method_2_code 10 = .ok (.lload_n 0, 1) := by decide +kernel
theorem d1_11 : decode method_2_code 11 = .ok (.lreturn, 1) := by decide +kernel
theorem ef_rm1 (m : MethodId) (u : Int64) (v : Int32) (w : Int32) : entryFrame m #[(.long u), (.int v), (.int w)] 4 = mkF m 0 #[.val (.long u), .second, .val (.int v), .val (.int w)] [] := by first | (simp [entryFrame, mkF, argsToLocals, Value.category]; done) | rfl
def own_pk (u : Int64) (v : Int32) (w : Int32) : Int64 := (if ((v >>> (w &&& 31)) &&& (1 : Int32)) = (0 : Int32) then u else (0 : Int64))
def Q1 (Z : State) (u : Int64) (v : Int32) (w : Int32) (h0 : Heap) (n0 : Nat) (rv : Option Value) (hq : Heap) (Lq : List Loc) : Prop := rv = some (.long (own_pk u v w)) ∧ Fr n0 Lq ∧ hq = h0
set_option maxRecDepth 65536 in
set_option maxHeartbeats 40000000 in
theorem rm1 (l : Launch) (Z : State) (a0 : Array Value) (hw : ∀ d ∈ tables_1, d.before a0 Z = true) (ws : List Jvm.Cond) (u : Int64) (v : Int32) (w : Int32) (h0 : Heap) (n0 : Nat) (Z0 : n0 ≤ h0.size) :
    MetFree l (⟨"com/example/attestrum/attestrum/schemes/ec/P256FieldZeroMaskPinLaw", "pick", "(JII)J"⟩ : MethodName) (head1 (Jvm.Cond.code (⟨"com/example/attestrum/attestrum/schemes/ec/P256FieldZeroMaskPinLaw", "pick", "(JII)J"⟩ : MethodName) method_2_code 4 (some .long) :: ws) ({ frames := 0, cells := 0, slots := 0, locals := 0 } : Room)) (fun za U => za = #[(.long u), (.int v), (.int w)] ∧ Z.Warmed39 U.vm ∧ U.heap = h0) (fun _ _ _ _ _ => True) (fun _ U o U' => ∃ rv Lq, o = .returned rv ∧ Q1 Z u v w h0 n0 rv U'.heap Lq ∧ FrameEnd U o U' Lq ({ frames := 0, cells := 0, slots := 0, locals := 0 } : Room).cells ({ frames := 0, cells := 0, slots := 0, locals := 0 } : Room).slots) := by
  refine MetFree.of_bodySF (plainFor_of_name pn_0) hisR ?_
  intro p e s m args below meth c s₁ Bd hml0 hP hK
  obtain ⟨rfl, hZ, hh⟩ := hP
  have hx := Bd.exec
  have hby := Bd.bytes
  have hml : c.maxLocals = 4 := hml0
  have hown : s.vm.findClass "com/example/attestrum/attestrum/schemes/ec/P256FieldZeroMaskPinLaw" = some m.cls := findClass_of_methodNamed Bd.named
  have hnm := (name_of_methodNamed Bd.named Bd.method).1
  have X0 : Stand p l e ({ frames := 0, cells := 0, slots := 0, locals := 0 } : Room) s m #[(.long u), (.int v), (.int w)] below meth c s₁ [] 0 0 := Stand.of_body Bd
  have e0 : s₁.heap = h0 := by rw [← hh, Bd.state]; rfl
  have N0 := Fr.nil n0
  refine own_out (own_nm fun G hG => own_st (fun zt zk => castTop (ef_rm1 m u v w) zk) ?_)
  show own_Go p e below G (s₁.setTop (mkF m 0 #[.val (.long u), .second, .val (.int v), .val (.int w)] []))
  refine own_st (fun zw zk => XS.iloadN X0.here hx rfl (hb hby d1_0) rfl zk) ?_
  refine own_st (fun zw zk => XS.iloadN X0.here hx rfl (hb hby d1_1) rfl zk) ?_
  refine own_st (fun zw zk => XS.ishr X0.here hx rfl (hb hby d1_2) rfl zk) ?_
  refine own_st (fun zw zk => XS.iconst X0.here hx rfl (hb hby d1_3) zk) ?_
  refine own_st (fun zw zk => XS.iand X0.here hx rfl (hb hby d1_4) rfl zk) ?_
  by_cases hc5 : ((v >>> (w &&& 31)) &&& (1 : Int32)) = (0 : Int32)
  · refine own_st (fun zw zk => XS.ifYes X0.here hx rfl (pc0 := 5) (pc' := 10) rfl (hb hby d1_5) rfl ((if0 _ _).trans (teq hc5).1) (by decide) (by decide) zk) ?_
    refine own_st (fun zw zk => XS.lloadN X0.here hx rfl (hb hby d1_10) rfl zk) ?_
    subst hG
    obtain ⟨fs, hr, hrun, hended, hW, hsame⟩ := X0.leave (v := some (.long u)) (fun h => by rw [Bd.returns] at h; cases h)
    refine ⟨_, own_retJ X0 hx Bd.returns (hb hby d1_11) hr, _, hrun, hended, _, _, rfl, ?_, ⟨_, rfl⟩, hW, hsame.mono (by decide) (by decide)⟩
    show Q1 Z u v w h0 n0 _ s₁.heap _
    rw [e0]
    exact ⟨by unfold own_pk; rw [if_pos hc5], N0, rfl⟩
  · refine own_st (fun zw zk => XS.ifNo X0.here hx rfl (hb hby d1_5) rfl ((if0 _ _).trans (feq hc5).1) zk) ?_
    refine own_st (fun zw zk => XS.lconst X0.here hx rfl (hb hby d1_8) zk) ?_
    subst hG
    obtain ⟨fs, hr, hrun, hended, hW, hsame⟩ := X0.leave (v := some (.long (0 : Int64))) (fun h => by rw [Bd.returns] at h; cases h)
    refine ⟨_, own_retJ X0 hx Bd.returns (hb hby d1_9) hr, _, hrun, hended, _, _, rfl, ?_, ⟨_, rfl⟩, hW, hsame.mono (by decide) (by decide)⟩
    show Q1 Z u v w h0 n0 _ s₁.heap _
    rw [e0]
    exact ⟨by unfold own_pk; rw [if_neg hc5], N0, rfl⟩
theorem own_pks {u : Int64} (h : own_small u) (v w : Int32) : own_small (own_pk u v w) := by
  unfold own_pk
  split
  · first | exact h | exact own_sm0
  · first | exact h | exact own_sm0
theorem pn_1 : plainName "com/example/attestrum/attestrum/schemes/ec/P256Field" = true := by first | (simp [plainName, overriddenIn]; done) | decide +kernel
theorem d2_0 : decode prog_52_method_13_code 0 = .ok (.lconst 0, 1) := by decide +kernel
theorem d2_1 : decode prog_52_method_13_code 1 = .ok (.lstore_n 1, 1) := by decide +kernel
theorem d2_2 : decode prog_52_method_13_code 2 = .ok (.iconst 0, 1) := by decide +kernel
theorem d2_3 : decode prog_52_method_13_code 3 = .ok (.istore_n 3, 1) := by decide +kernel
theorem d2_4 : decode prog_52_method_13_code 4 = .ok (.iload_n 3, 1) := by decide +kernel
theorem d2_5 : decode prog_52_method_13_code 5 = .ok (.bipush 8, 2) := by decide +kernel
theorem d2_7 : decode prog_52_method_13_code 7 = .ok (.if_icmp .ge 15, 3) := by decide +kernel
theorem d2_10 : decode prog_52_method_13_code 10 = .ok (.lload_n 1, 1) := by decide +kernel
theorem d2_11 : decode prog_52_method_13_code 11 = .ok (.aload_n 0, 1) := by decide +kernel
theorem d2_12 : decode prog_52_method_13_code 12 = .ok (.iload_n 3, 1) := by decide +kernel
theorem d2_13 : decode prog_52_method_13_code 13 = .ok (.laload, 1) := by decide +kernel
theorem d2_14 : decode prog_52_method_13_code 14 = .ok (.lor, 1) := by decide +kernel
theorem d2_15 : decode prog_52_method_13_code 15 = .ok (.lstore_n 1, 1) := by decide +kernel
theorem d2_16 : decode prog_52_method_13_code 16 = .ok (.iinc 3 1, 3) := by decide +kernel
theorem d2_19 : decode prog_52_method_13_code 19 = .ok (.goto (-15), 3) := by decide +kernel
theorem d2_22 : decode prog_52_method_13_code 22 = .ok (.lload_n 1, 1) := by decide +kernel
theorem d2_23 : decode prog_52_method_13_code 23 = .ok (.lconst 1, 1) := by decide +kernel
theorem d2_24 : decode prog_52_method_13_code 24 = .ok (.lsub, 1) := by decide +kernel
theorem d2_25 : decode prog_52_method_13_code 25 = .ok (.bipush 63, 2) := by decide +kernel
theorem d2_27 : decode prog_52_method_13_code 27 = .ok (.lshr, 1) := by decide +kernel
theorem d2_28 : decode prog_52_method_13_code 28 = .ok (.lreturn, 1) := by decide +kernel
theorem ef_rm2 (m : MethodId) (a0 : Addr) : entryFrame m #[(.ref a0)] 4 = mkF m 0 #[.val (.ref a0), .unset, .unset, .unset] [] := by first | (simp [entryFrame, mkF, argsToLocals, Value.category]; done) | rfl
def own_zm (w0 : Int64) (w1 : Int64) (w2 : Int64) (w3 : Int64) (w4 : Int64) (w5 : Int64) (w6 : Int64) (w7 : Int64) : Int64 := (((((((((((0 : Int64) ||| w0) ||| w1) ||| w2) ||| w3) ||| w4) ||| w5) ||| w6) ||| w7) - (1 : Int64)) >>> ((63 : Int32) &&& 0x3f).toInt64)
def Q2 (Z : State) (a0 : Addr) (w0 : Int64) (w1 : Int64) (w2 : Int64) (w3 : Int64) (w4 : Int64) (w5 : Int64) (w6 : Int64) (w7 : Int64) (h0 : Heap) (n0 : Nat) (rv : Option Value) (hq : Heap) (Lq : List Loc) : Prop := rv = some (.long (own_zm w0 w1 w2 w3 w4 w5 w6 w7)) ∧ Fr n0 Lq ∧ hq = h0
set_option maxRecDepth 65536 in
set_option maxHeartbeats 40000000 in
theorem rm2 (l : Launch) (Z : State) (a0 : Array Value) (hw : ∀ d ∈ tables_1, d.before a0 Z = true) (ws : List Jvm.Cond) (a0 : Addr) (w0 : Int64) (w1 : Int64) (w2 : Int64) (w3 : Int64) (w4 : Int64) (w5 : Int64) (w6 : Int64) (w7 : Int64) (h0 : Heap) (n0 : Nat) (Z0 : n0 ≤ h0.size) (F0_ : own_L Z h0 a0 .long ([(.long w0), (.long w1), (.long w2), (.long w3), (.long w4), (.long w5), (.long w6), (.long w7)])) :
    MetFree l (⟨"com/example/attestrum/attestrum/schemes/ec/P256Field", "zeroMask", "([J)J"⟩ : MethodName) (head1 (Jvm.Cond.code (⟨"com/example/attestrum/attestrum/schemes/ec/P256Field", "zeroMask", "([J)J"⟩ : MethodName) prog_52_method_13_code 4 (some .long) :: ws) ({ frames := 0, cells := 0, slots := 0, locals := 0 } : Room)) (fun za U => za = #[(.ref a0)] ∧ Z.Warmed39 U.vm ∧ U.heap = h0) (fun _ _ _ _ _ => True) (fun _ U o U' => ∃ rv Lq, o = .returned rv ∧ Q2 Z a0 w0 w1 w2 w3 w4 w5 w6 w7 h0 n0 rv U'.heap Lq ∧ FrameEnd U o U' Lq ({ frames := 0, cells := 0, slots := 0, locals := 0 } : Room).cells ({ frames := 0, cells := 0, slots := 0, locals := 0 } : Room).slots) := by
  refine MetFree.of_bodySF (plainFor_of_name pn_1) hisR ?_
  intro p e s m args below meth c s₁ Bd hml0 hP hK
  obtain ⟨rfl, hZ, hh⟩ := hP
  have hx := Bd.exec
  have hby := Bd.bytes
  have hml : c.maxLocals = 4 := hml0
  have hown : s.vm.findClass "com/example/attestrum/attestrum/schemes/ec/P256Field" = some m.cls := findClass_of_methodNamed Bd.named
  have hnm := (name_of_methodNamed Bd.named Bd.method).1
  have X0 : Stand p l e ({ frames := 0, cells := 0, slots := 0, locals := 0 } : Room) s m #[(.ref a0)] below meth c s₁ [] 0 0 := Stand.of_body Bd
  have e0 : s₁.heap = h0 := by rw [← hh, Bd.state]; rfl
  have N0 := Fr.nil n0
  refine own_out (own_nm fun G hG => own_st (fun zt zk => castTop (ef_rm2 m a0) zk) ?_)
  show own_Go p e below G (s₁.setTop (mkF m 0 #[.val (.ref a0), .unset, .unset, .unset] []))
  refine own_st (fun zw zk => XS.lconst X0.here hx rfl (hb hby d2_0) zk) ?_
  refine own_st (fun zw zk => XS.lstoreN X0.here hx rfl (hb hby d2_1) rfl rfl zk) ?_
  show own_Go p e below G (s₁.setTop (mkF m 2 #[.val (.ref a0), .val (.long (0 : Int64)), .second, .unset] []))
  refine own_st (fun zw zk => XS.iconst X0.here hx rfl (hb hby d2_2) zk) ?_
  refine own_st (fun zw zk => XS.istoreN X0.here hx rfl (hb hby d2_3) rfl rfl zk) ?_
  show own_Go p e below G (s₁.setTop (mkF m 4 #[.val (.ref a0), .val (.long (0 : Int64)), .second, .val (.int (0 : Int32))] []))
  refine own_st (fun zw zk => XS.iloadN X0.here hx rfl (hb hby d2_4) rfl zk) ?_
  refine own_st (fun zw zk => XS.bipush X0.here hx rfl (hb hby d2_5) zk) ?_
  refine own_st (fun zw zk => XS.icmpNo X0.here hx rfl (hb hby d2_7) rfl (tlt (by decide : (0 : Int32) < (8 : Int32))).2.1 zk) ?_
  refine own_st (fun zw zk => XS.lloadN X0.here hx rfl (hb hby d2_10) rfl zk) ?_
  refine own_st (fun zw zk => XS.aloadN X0.here hx rfl (hb hby d2_11) rfl rfl zk) ?_
  refine own_st (fun zw zk => XS.iloadN X0.here hx rfl (hb hby d2_12) rfl zk) ?_
  refine own_st (fun zw zk => own_jld X0 hx hZ e0 F0_ (j := (0 : Int32)) (v := (.long w0)) (i := 0) (by decide) (by decide) rfl (g := (mkF m 13 #[.val (.ref a0), .val (.long (0 : Int64)), .second, .val (.int (0 : Int32))] [(.int (0 : Int32)), (.ref a0), (.long (0 : Int64))])) rfl rfl (hb hby d2_13) _ zk) ?_
  refine own_st (fun zw zk => XS.lor X0.here hx rfl (hb hby d2_14) rfl zk) ?_
  show own_Go p e below G (s₁.setTop (mkF m 15 #[.val (.ref a0), .val (.long (0 : Int64)), .second, .val (.int (0 : Int32))] [(.long ((0 : Int64) ||| w0))]))
  refine own_st (fun zw zk => XS.lstoreN X0.here hx rfl (hb hby d2_15) rfl rfl zk) ?_
  show own_Go p e below G (s₁.setTop (mkF m 16 #[.val (.ref a0), .val (.long ((0 : Int64) ||| w0)), .second, .val (.int (0 : Int32))] []))
  refine own_st (fun zw zk => XS.iinc X0.here hx rfl (hb hby d2_16) rfl rfl zk) ?_
  show own_Go p e below G (s₁.setTop (mkF m 19 #[.val (.ref a0), .val (.long ((0 : Int64) ||| w0)), .second, .val (.int (1 : Int32))] []))
  refine own_st (fun zw zk => XS.goto X0.here hx rfl (pc0 := 19) (pc' := 4) rfl (hb hby d2_19) (by decide) (by decide) zk) ?_
  show own_Go p e below G (s₁.setTop (mkF m 4 #[.val (.ref a0), .val (.long ((0 : Int64) ||| w0)), .second, .val (.int (1 : Int32))] []))
  refine own_st (fun zw zk => XS.iloadN X0.here hx rfl (hb hby d2_4) rfl zk) ?_
  refine own_st (fun zw zk => XS.bipush X0.here hx rfl (hb hby d2_5) zk) ?_
  refine own_st (fun zw zk => XS.icmpNo X0.here hx rfl (hb hby d2_7) rfl (tlt (by decide : (1 : Int32) < (8 : Int32))).2.1 zk) ?_
  refine own_st (fun zw zk => XS.lloadN X0.here hx rfl (hb hby d2_10) rfl zk) ?_
  refine own_st (fun zw zk => XS.aloadN X0.here hx rfl (hb hby d2_11) rfl rfl zk) ?_
  refine own_st (fun zw zk => XS.iloadN X0.here hx rfl (hb hby d2_12) rfl zk) ?_
  refine own_st (fun zw zk => own_jld X0 hx hZ e0 F0_ (j := (1 : Int32)) (v := (.long w1)) (i := 1) (by decide) (by decide) rfl (g := (mkF m 13 #[.val (.ref a0), .val (.long ((0 : Int64) ||| w0)), .second, .val (.int (1 : Int32))] [(.int (1 : Int32)), (.ref a0), (.long ((0 : Int64) ||| w0))])) rfl rfl (hb hby d2_13) _ zk) ?_
  refine own_st (fun zw zk => XS.lor X0.here hx rfl (hb hby d2_14) rfl zk) ?_
  show own_Go p e below G (s₁.setTop (mkF m 15 #[.val (.ref a0), .val (.long ((0 : Int64) ||| w0)), .second, .val (.int (1 : Int32))] [(.long (((0 : Int64) ||| w0) ||| w1))]))
  refine own_st (fun zw zk => XS.lstoreN X0.here hx rfl (hb hby d2_15) rfl rfl zk) ?_
  show own_Go p e below G (s₁.setTop (mkF m 16 #[.val (.ref a0), .val (.long (((0 : Int64) ||| w0) ||| w1)), .second, .val (.int (1 : Int32))] []))
  refine own_st (fun zw zk => XS.iinc X0.here hx rfl (hb hby d2_16) rfl rfl zk) ?_
  show own_Go p e below G (s₁.setTop (mkF m 19 #[.val (.ref a0), .val (.long (((0 : Int64) ||| w0) ||| w1)), .second, .val (.int (2 : Int32))] []))
  refine own_st (fun zw zk => XS.goto X0.here hx rfl (pc0 := 19) (pc' := 4) rfl (hb hby d2_19) (by decide) (by decide) zk) ?_
  show own_Go p e below G (s₁.setTop (mkF m 4 #[.val (.ref a0), .val (.long (((0 : Int64) ||| w0) ||| w1)), .second, .val (.int (2 : Int32))] []))
  refine own_st (fun zw zk => XS.iloadN X0.here hx rfl (hb hby d2_4) rfl zk) ?_
  refine own_st (fun zw zk => XS.bipush X0.here hx rfl (hb hby d2_5) zk) ?_
  refine own_st (fun zw zk => XS.icmpNo X0.here hx rfl (hb hby d2_7) rfl (tlt (by decide : (2 : Int32) < (8 : Int32))).2.1 zk) ?_
  refine own_st (fun zw zk => XS.lloadN X0.here hx rfl (hb hby d2_10) rfl zk) ?_
  refine own_st (fun zw zk => XS.aloadN X0.here hx rfl (hb hby d2_11) rfl rfl zk) ?_
  refine own_st (fun zw zk => XS.iloadN X0.here hx rfl (hb hby d2_12) rfl zk) ?_
  refine own_st (fun zw zk => own_jld X0 hx hZ e0 F0_ (j := (2 : Int32)) (v := (.long w2)) (i := 2) (by decide) (by decide) rfl (g := (mkF m 13 #[.val (.ref a0), .val (.long (((0 : Int64) ||| w0) ||| w1)), .second, .val (.int (2 : Int32))] [(.int (2 : Int32)), (.ref a0), (.long (((0 : Int64) ||| w0) ||| w1))])) rfl rfl (hb hby d2_13) _ zk) ?_
  refine own_st (fun zw zk => XS.lor X0.here hx rfl (hb hby d2_14) rfl zk) ?_
  show own_Go p e below G (s₁.setTop (mkF m 15 #[.val (.ref a0), .val (.long (((0 : Int64) ||| w0) ||| w1)), .second, .val (.int (2 : Int32))] [(.long ((((0 : Int64) ||| w0) ||| w1) ||| w2))]))
  refine own_st (fun zw zk => XS.lstoreN X0.here hx rfl (hb hby d2_15) rfl rfl zk) ?_
  show own_Go p e below G (s₁.setTop (mkF m 16 #[.val (.ref a0), .val (.long ((((0 : Int64) ||| w0) ||| w1) ||| w2)), .second, .val (.int (2 : Int32))] []))
  refine own_st (fun zw zk => XS.iinc X0.here hx rfl (hb hby d2_16) rfl rfl zk) ?_
  show own_Go p e below G (s₁.setTop (mkF m 19 #[.val (.ref a0), .val (.long ((((0 : Int64) ||| w0) ||| w1) ||| w2)), .second, .val (.int (3 : Int32))] []))
  refine own_st (fun zw zk => XS.goto X0.here hx rfl (pc0 := 19) (pc' := 4) rfl (hb hby d2_19) (by decide) (by decide) zk) ?_
  show own_Go p e below G (s₁.setTop (mkF m 4 #[.val (.ref a0), .val (.long ((((0 : Int64) ||| w0) ||| w1) ||| w2)), .second, .val (.int (3 : Int32))] []))
  refine own_st (fun zw zk => XS.iloadN X0.here hx rfl (hb hby d2_4) rfl zk) ?_
  refine own_st (fun zw zk => XS.bipush X0.here hx rfl (hb hby d2_5) zk) ?_
  refine own_st (fun zw zk => XS.icmpNo X0.here hx rfl (hb hby d2_7) rfl (tlt (by decide : (3 : Int32) < (8 : Int32))).2.1 zk) ?_
  refine own_st (fun zw zk => XS.lloadN X0.here hx rfl (hb hby d2_10) rfl zk) ?_
  refine own_st (fun zw zk => XS.aloadN X0.here hx rfl (hb hby d2_11) rfl rfl zk) ?_
  refine own_st (fun zw zk => XS.iloadN X0.here hx rfl (hb hby d2_12) rfl zk) ?_
  refine own_st (fun zw zk => own_jld X0 hx hZ e0 F0_ (j := (3 : Int32)) (v := (.long w3)) (i := 3) (by decide) (by decide) rfl (g := (mkF m 13 #[.val (.ref a0), .val (.long ((((0 : Int64) ||| w0) ||| w1) ||| w2)), .second, .val (.int (3 : Int32))] [(.int (3 : Int32)), (.ref a0), (.long ((((0 : Int64) ||| w0) ||| w1) ||| w2))])) rfl rfl (hb hby d2_13) _ zk) ?_
  refine own_st (fun zw zk => XS.lor X0.here hx rfl (hb hby d2_14) rfl zk) ?_
  show own_Go p e below G (s₁.setTop (mkF m 15 #[.val (.ref a0), .val (.long ((((0 : Int64) ||| w0) ||| w1) ||| w2)), .second, .val (.int (3 : Int32))] [(.long (((((0 : Int64) ||| w0) ||| w1) ||| w2) ||| w3))]))
  refine own_st (fun zw zk => XS.lstoreN X0.here hx rfl (hb hby d2_15) rfl rfl zk) ?_
  show own_Go p e below G (s₁.setTop (mkF m 16 #[.val (.ref a0), .val (.long (((((0 : Int64) ||| w0) ||| w1) ||| w2) ||| w3)), .second, .val (.int (3 : Int32))] []))
  refine own_st (fun zw zk => XS.iinc X0.here hx rfl (hb hby d2_16) rfl rfl zk) ?_
  show own_Go p e below G (s₁.setTop (mkF m 19 #[.val (.ref a0), .val (.long (((((0 : Int64) ||| w0) ||| w1) ||| w2) ||| w3)), .second, .val (.int (4 : Int32))] []))
  refine own_st (fun zw zk => XS.goto X0.here hx rfl (pc0 := 19) (pc' := 4) rfl (hb hby d2_19) (by decide) (by decide) zk) ?_
  show own_Go p e below G (s₁.setTop (mkF m 4 #[.val (.ref a0), .val (.long (((((0 : Int64) ||| w0) ||| w1) ||| w2) ||| w3)), .second, .val (.int (4 : Int32))] []))
  refine own_st (fun zw zk => XS.iloadN X0.here hx rfl (hb hby d2_4) rfl zk) ?_
  refine own_st (fun zw zk => XS.bipush X0.here hx rfl (hb hby d2_5) zk) ?_
  refine own_st (fun zw zk => XS.icmpNo X0.here hx rfl (hb hby d2_7) rfl (tlt (by decide : (4 : Int32) < (8 : Int32))).2.1 zk) ?_
  refine own_st (fun zw zk => XS.lloadN X0.here hx rfl (hb hby d2_10) rfl zk) ?_
  refine own_st (fun zw zk => XS.aloadN X0.here hx rfl (hb hby d2_11) rfl rfl zk) ?_
  refine own_st (fun zw zk => XS.iloadN X0.here hx rfl (hb hby d2_12) rfl zk) ?_
  refine own_st (fun zw zk => own_jld X0 hx hZ e0 F0_ (j := (4 : Int32)) (v := (.long w4)) (i := 4) (by decide) (by decide) rfl (g := (mkF m 13 #[.val (.ref a0), .val (.long (((((0 : Int64) ||| w0) ||| w1) ||| w2) ||| w3)), .second, .val (.int (4 : Int32))] [(.int (4 : Int32)), (.ref a0), (.long (((((0 : Int64) ||| w0) ||| w1) ||| w2) ||| w3))])) rfl rfl (hb hby d2_13) _ zk) ?_
  refine own_st (fun zw zk => XS.lor X0.here hx rfl (hb hby d2_14) rfl zk) ?_
  show own_Go p e below G (s₁.setTop (mkF m 15 #[.val (.ref a0), .val (.long (((((0 : Int64) ||| w0) ||| w1) ||| w2) ||| w3)), .second, .val (.int (4 : Int32))] [(.long ((((((0 : Int64) ||| w0) ||| w1) ||| w2) ||| w3) ||| w4))]))
  refine own_st (fun zw zk => XS.lstoreN X0.here hx rfl (hb hby d2_15) rfl rfl zk) ?_
  show own_Go p e below G (s₁.setTop (mkF m 16 #[.val (.ref a0), .val (.long ((((((0 : Int64) ||| w0) ||| w1) ||| w2) ||| w3) ||| w4)), .second, .val (.int (4 : Int32))] []))
  refine own_st (fun zw zk => XS.iinc X0.here hx rfl (hb hby d2_16) rfl rfl zk) ?_
  show own_Go p e below G (s₁.setTop (mkF m 19 #[.val (.ref a0), .val (.long ((((((0 : Int64) ||| w0) ||| w1) ||| w2) ||| w3) ||| w4)), .second, .val (.int (5 : Int32))] []))
  refine own_st (fun zw zk => XS.goto X0.here hx rfl (pc0 := 19) (pc' := 4) rfl (hb hby d2_19) (by decide) (by decide) zk) ?_
  show own_Go p e below G (s₁.setTop (mkF m 4 #[.val (.ref a0), .val (.long ((((((0 : Int64) ||| w0) ||| w1) ||| w2) ||| w3) ||| w4)), .second, .val (.int (5 : Int32))] []))
  refine own_st (fun zw zk => XS.iloadN X0.here hx rfl (hb hby d2_4) rfl zk) ?_
  refine own_st (fun zw zk => XS.bipush X0.here hx rfl (hb hby d2_5) zk) ?_
  refine own_st (fun zw zk => XS.icmpNo X0.here hx rfl (hb hby d2_7) rfl (tlt (by decide : (5 : Int32) < (8 : Int32))).2.1 zk) ?_
  refine own_st (fun zw zk => XS.lloadN X0.here hx rfl (hb hby d2_10) rfl zk) ?_
  refine own_st (fun zw zk => XS.aloadN X0.here hx rfl (hb hby d2_11) rfl rfl zk) ?_
  refine own_st (fun zw zk => XS.iloadN X0.here hx rfl (hb hby d2_12) rfl zk) ?_
  refine own_st (fun zw zk => own_jld X0 hx hZ e0 F0_ (j := (5 : Int32)) (v := (.long w5)) (i := 5) (by decide) (by decide) rfl (g := (mkF m 13 #[.val (.ref a0), .val (.long ((((((0 : Int64) ||| w0) ||| w1) ||| w2) ||| w3) ||| w4)), .second, .val (.int (5 : Int32))] [(.int (5 : Int32)), (.ref a0), (.long ((((((0 : Int64) ||| w0) ||| w1) ||| w2) ||| w3) ||| w4))])) rfl rfl (hb hby d2_13) _ zk) ?_
  refine own_st (fun zw zk => XS.lor X0.here hx rfl (hb hby d2_14) rfl zk) ?_
  show own_Go p e below G (s₁.setTop (mkF m 15 #[.val (.ref a0), .val (.long ((((((0 : Int64) ||| w0) ||| w1) ||| w2) ||| w3) ||| w4)), .second, .val (.int (5 : Int32))] [(.long (((((((0 : Int64) ||| w0) ||| w1) ||| w2) ||| w3) ||| w4) ||| w5))]))
  refine own_st (fun zw zk => XS.lstoreN X0.here hx rfl (hb hby d2_15) rfl rfl zk) ?_
  show own_Go p e below G (s₁.setTop (mkF m 16 #[.val (.ref a0), .val (.long (((((((0 : Int64) ||| w0) ||| w1) ||| w2) ||| w3) ||| w4) ||| w5)), .second, .val (.int (5 : Int32))] []))
  refine own_st (fun zw zk => XS.iinc X0.here hx rfl (hb hby d2_16) rfl rfl zk) ?_
  show own_Go p e below G (s₁.setTop (mkF m 19 #[.val (.ref a0), .val (.long (((((((0 : Int64) ||| w0) ||| w1) ||| w2) ||| w3) ||| w4) ||| w5)), .second, .val (.int (6 : Int32))] []))
  refine own_st (fun zw zk => XS.goto X0.here hx rfl (pc0 := 19) (pc' := 4) rfl (hb hby d2_19) (by decide) (by decide) zk) ?_
  show own_Go p e below G (s₁.setTop (mkF m 4 #[.val (.ref a0), .val (.long (((((((0 : Int64) ||| w0) ||| w1) ||| w2) ||| w3) ||| w4) ||| w5)), .second, .val (.int (6 : Int32))] []))
  refine own_st (fun zw zk => XS.iloadN X0.here hx rfl (hb hby d2_4) rfl zk) ?_
  refine own_st (fun zw zk => XS.bipush X0.here hx rfl (hb hby d2_5) zk) ?_
  refine own_st (fun zw zk => XS.icmpNo X0.here hx rfl (hb hby d2_7) rfl (tlt (by decide : (6 : Int32) < (8 : Int32))).2.1 zk) ?_
  refine own_st (fun zw zk => XS.lloadN X0.here hx rfl (hb hby d2_10) rfl zk) ?_
  refine own_st (fun zw zk => XS.aloadN X0.here hx rfl (hb hby d2_11) rfl rfl zk) ?_
  refine own_st (fun zw zk => XS.iloadN X0.here hx rfl (hb hby d2_12) rfl zk) ?_
  refine own_st (fun zw zk => own_jld X0 hx hZ e0 F0_ (j := (6 : Int32)) (v := (.long w6)) (i := 6) (by decide) (by decide) rfl (g := (mkF m 13 #[.val (.ref a0), .val (.long (((((((0 : Int64) ||| w0) ||| w1) ||| w2) ||| w3) ||| w4) ||| w5)), .second, .val (.int (6 : Int32))] [(.int (6 : Int32)), (.ref a0), (.long (((((((0 : Int64) ||| w0) ||| w1) ||| w2) ||| w3) ||| w4) ||| w5))])) rfl rfl (hb hby d2_13) _ zk) ?_
  refine own_st (fun zw zk => XS.lor X0.here hx rfl (hb hby d2_14) rfl zk) ?_
  show own_Go p e below G (s₁.setTop (mkF m 15 #[.val (.ref a0), .val (.long (((((((0 : Int64) ||| w0) ||| w1) ||| w2) ||| w3) ||| w4) ||| w5)), .second, .val (.int (6 : Int32))] [(.long ((((((((0 : Int64) ||| w0) ||| w1) ||| w2) ||| w3) ||| w4) ||| w5) ||| w6))]))
  refine own_st (fun zw zk => XS.lstoreN X0.here hx rfl (hb hby d2_15) rfl rfl zk) ?_
  show own_Go p e below G (s₁.setTop (mkF m 16 #[.val (.ref a0), .val (.long ((((((((0 : Int64) ||| w0) ||| w1) ||| w2) ||| w3) ||| w4) ||| w5) ||| w6)), .second, .val (.int (6 : Int32))] []))
  refine own_st (fun zw zk => XS.iinc X0.here hx rfl (hb hby d2_16) rfl rfl zk) ?_
  show own_Go p e below G (s₁.setTop (mkF m 19 #[.val (.ref a0), .val (.long ((((((((0 : Int64) ||| w0) ||| w1) ||| w2) ||| w3) ||| w4) ||| w5) ||| w6)), .second, .val (.int (7 : Int32))] []))
  refine own_st (fun zw zk => XS.goto X0.here hx rfl (pc0 := 19) (pc' := 4) rfl (hb hby d2_19) (by decide) (by decide) zk) ?_
  show own_Go p e below G (s₁.setTop (mkF m 4 #[.val (.ref a0), .val (.long ((((((((0 : Int64) ||| w0) ||| w1) ||| w2) ||| w3) ||| w4) ||| w5) ||| w6)), .second, .val (.int (7 : Int32))] []))
  refine own_st (fun zw zk => XS.iloadN X0.here hx rfl (hb hby d2_4) rfl zk) ?_
  refine own_st (fun zw zk => XS.bipush X0.here hx rfl (hb hby d2_5) zk) ?_
  refine own_st (fun zw zk => XS.icmpNo X0.here hx rfl (hb hby d2_7) rfl (tlt (by decide : (7 : Int32) < (8 : Int32))).2.1 zk) ?_
  refine own_st (fun zw zk => XS.lloadN X0.here hx rfl (hb hby d2_10) rfl zk) ?_
  refine own_st (fun zw zk => XS.aloadN X0.here hx rfl (hb hby d2_11) rfl rfl zk) ?_
  refine own_st (fun zw zk => XS.iloadN X0.here hx rfl (hb hby d2_12) rfl zk) ?_
  refine own_st (fun zw zk => own_jld X0 hx hZ e0 F0_ (j := (7 : Int32)) (v := (.long w7)) (i := 7) (by decide) (by decide) rfl (g := (mkF m 13 #[.val (.ref a0), .val (.long ((((((((0 : Int64) ||| w0) ||| w1) ||| w2) ||| w3) ||| w4) ||| w5) ||| w6)), .second, .val (.int (7 : Int32))] [(.int (7 : Int32)), (.ref a0), (.long ((((((((0 : Int64) ||| w0) ||| w1) ||| w2) ||| w3) ||| w4) ||| w5) ||| w6))])) rfl rfl (hb hby d2_13) _ zk) ?_
  refine own_st (fun zw zk => XS.lor X0.here hx rfl (hb hby d2_14) rfl zk) ?_
  show own_Go p e below G (s₁.setTop (mkF m 15 #[.val (.ref a0), .val (.long ((((((((0 : Int64) ||| w0) ||| w1) ||| w2) ||| w3) ||| w4) ||| w5) ||| w6)), .second, .val (.int (7 : Int32))] [(.long (((((((((0 : Int64) ||| w0) ||| w1) ||| w2) ||| w3) ||| w4) ||| w5) ||| w6) ||| w7))]))
  refine own_st (fun zw zk => XS.lstoreN X0.here hx rfl (hb hby d2_15) rfl rfl zk) ?_
  show own_Go p e below G (s₁.setTop (mkF m 16 #[.val (.ref a0), .val (.long (((((((((0 : Int64) ||| w0) ||| w1) ||| w2) ||| w3) ||| w4) ||| w5) ||| w6) ||| w7)), .second, .val (.int (7 : Int32))] []))
  refine own_st (fun zw zk => XS.iinc X0.here hx rfl (hb hby d2_16) rfl rfl zk) ?_
  show own_Go p e below G (s₁.setTop (mkF m 19 #[.val (.ref a0), .val (.long (((((((((0 : Int64) ||| w0) ||| w1) ||| w2) ||| w3) ||| w4) ||| w5) ||| w6) ||| w7)), .second, .val (.int (8 : Int32))] []))
  refine own_st (fun zw zk => XS.goto X0.here hx rfl (pc0 := 19) (pc' := 4) rfl (hb hby d2_19) (by decide) (by decide) zk) ?_
  show own_Go p e below G (s₁.setTop (mkF m 4 #[.val (.ref a0), .val (.long (((((((((0 : Int64) ||| w0) ||| w1) ||| w2) ||| w3) ||| w4) ||| w5) ||| w6) ||| w7)), .second, .val (.int (8 : Int32))] []))
  refine own_st (fun zw zk => XS.iloadN X0.here hx rfl (hb hby d2_4) rfl zk) ?_
  refine own_st (fun zw zk => XS.bipush X0.here hx rfl (hb hby d2_5) zk) ?_
  refine own_st (fun zw zk => XS.icmpYes X0.here hx rfl (pc0 := 7) (pc' := 22) rfl (hb hby d2_7) rfl (flt (by decide : ¬ ((8 : Int32) < (8 : Int32)))).2.1 (by decide) (by decide) zk) ?_
  refine own_st (fun zw zk => XS.lloadN X0.here hx rfl (hb hby d2_22) rfl zk) ?_
  refine own_st (fun zw zk => XS.lconst X0.here hx rfl (hb hby d2_23) zk) ?_
  refine own_st (fun zw zk => XS.lsub X0.here hx rfl (hb hby d2_24) rfl zk) ?_
  refine own_st (fun zw zk => XS.bipush X0.here hx rfl (hb hby d2_25) zk) ?_
  refine own_st (fun zw zk => XS.lshr X0.here hx rfl (hb hby d2_27) rfl zk) ?_
  show own_Go p e below G (s₁.setTop (mkF m 28 #[.val (.ref a0), .val (.long (((((((((0 : Int64) ||| w0) ||| w1) ||| w2) ||| w3) ||| w4) ||| w5) ||| w6) ||| w7)), .second, .val (.int (8 : Int32))] [(.long (((((((((((0 : Int64) ||| w0) ||| w1) ||| w2) ||| w3) ||| w4) ||| w5) ||| w6) ||| w7) - (1 : Int64)) >>> ((63 : Int32) &&& 0x3f).toInt64))]))
  subst hG
  obtain ⟨fs, hr, hrun, hended, hW, hsame⟩ := X0.leave (v := some (.long (((((((((((0 : Int64) ||| w0) ||| w1) ||| w2) ||| w3) ||| w4) ||| w5) ||| w6) ||| w7) - (1 : Int64)) >>> ((63 : Int32) &&& 0x3f).toInt64))) (fun h => by rw [Bd.returns] at h; cases h)
  refine ⟨_, own_retJ X0 hx Bd.returns (hb hby d2_28) hr, _, hrun, hended, _, _, rfl, ?_, ⟨_, rfl⟩, hW, hsame.mono (by decide) (by decide)⟩
  show Q2 Z a0 w0 w1 w2 w3 w4 w5 w6 w7 h0 n0 _ s₁.heap _
  rw [e0]
  exact ⟨rfl, N0, rfl⟩
theorem own_law {w0 w1 w2 w3 w4 w5 w6 w7 ex : Int64} (b0 : own_small w0) (b1 : own_small w1) (b2 : own_small w2) (b3 : own_small w3) (b4 : own_small w4) (b5 : own_small w5) (b6 : own_small w6) (b7 : own_small w7)
    (h : (w0 = 0 ∧ w1 = 0 ∧ w2 = 0 ∧ w3 = 0 ∧ w4 = 0 ∧ w5 = 0 ∧ w6 = 0 ∧ w7 = 0 ∧ ex = -1) ∨ (¬ (w0 = 0 ∧ w1 = 0 ∧ w2 = 0 ∧ w3 = 0 ∧ w4 = 0 ∧ w5 = 0 ∧ w6 = 0 ∧ w7 = 0) ∧ ex = 0)) : own_zm w0 w1 w2 w3 w4 w5 w6 w7 = ex := by
  unfold own_zm
  rw [own_fin (own_smOr (own_smOr (own_smOr (own_smOr (own_smOr (own_smOr (own_smOr (own_smOr own_sm0 b0) b1) b2) b3) b4) b5) b6) b7)]
  simp only [own_or0]
  rcases h with ⟨h0, h1, h2, h3, h4, h5, h6, h7, rfl⟩ | ⟨h, rfl⟩
  · rw [if_pos ⟨⟨⟨⟨⟨⟨⟨⟨trivial, h0⟩, h1⟩, h2⟩, h3⟩, h4⟩, h5⟩, h6⟩, h7⟩]
  · rw [if_neg]
    rintro ⟨⟨⟨⟨⟨⟨⟨⟨-, h0⟩, h1⟩, h2⟩, h3⟩, h4⟩, h5⟩, h6⟩, h7⟩
    exact h ⟨h0, h1, h2, h3, h4, h5, h6, h7⟩
theorem pd_0 : parseMethodDescriptor "(JII)J" = some ⟨[.long, .int, .int], some .long⟩ := by decide +kernel
theorem pd_1 : parseMethodDescriptor "([J)J" = some ⟨[(.array .long)], some .long⟩ := by decide +kernel
theorem ef_rm0 (m : MethodId) (q0 : Int64) (q1 : Int64) (q2 : Int64) (q3 : Int64) (p4 : Int32) : entryFrame m #[(.long q0), (.long q1), (.long q2), (.long q3), (.int p4)] maxLocals = mkF m 0 #[.val (.long q0), .second, .val (.long q1), .second, .val (.long q2), .second, .val (.long q3), .second, .val (.int p4), .unset, .unset, .unset, .unset, .unset, .unset, .unset, .unset, .unset, .unset, .unset, .unset, .unset, .unset, .unset, .unset, .unset, .unset, .unset, .unset, .unset, .unset] [] := by first | (simp [entryFrame, mkF, argsToLocals, Value.category, maxLocals]; done) | rfl
def Q0 (Z : State) (q0 : Int64) (q1 : Int64) (q2 : Int64) (q3 : Int64) (p4 : Int32) (h0 : Heap) (n0 : Nat) (rv : Option Value) (hq : Heap) (Lq : List Loc) : Prop := rv = some (.int 1) ∧ Fr n0 Lq
set_option maxRecDepth 65536 in
set_option maxHeartbeats 40000000 in
theorem rm0 (l : Launch) (Z : State) (a0 : Array Value) (hw : ∀ d ∈ tables_1, d.before a0 Z = true) (ws : List Jvm.Cond) (q0 : Int64) (q1 : Int64) (q2 : Int64) (q3 : Int64) (p4 : Int32) (h0 : Heap) (n0 : Nat) (Z0 : n0 ≤ h0.size) :
    MetFree l x (head1 (Jvm.Cond.code x code maxLocals ret :: ws) room_1) (fun za U => za = #[(.long q0), (.long q1), (.long q2), (.long q3), (.int p4)] ∧ Z.Warmed39 U.vm ∧ U.heap = h0) (fun _ _ _ _ _ => True) (fun _ U o U' => ∃ rv Lq, o = .returned rv ∧ Q0 Z q0 q1 q2 q3 p4 h0 n0 rv U'.heap Lq ∧ FrameEnd U o U' Lq room_1.cells room_1.slots) := by
  refine MetFree.of_bodySF (plainFor_of_name pn_0) hisR ?_
  intro p e s m args below meth c s₁ Bd hml0 hP hK
  obtain ⟨rfl, hZ, hh⟩ := hP
  have hx := Bd.exec
  have hby := Bd.bytes
  have hml : c.maxLocals = 31 := hml0
  have hown : s.vm.findClass "com/example/attestrum/attestrum/schemes/ec/P256FieldZeroMaskPinLaw" = some m.cls := findClass_of_methodNamed Bd.named
  have hnm := (name_of_methodNamed Bd.named Bd.method).1
  have X0 : Stand p l e room_1 s m #[(.long q0), (.long q1), (.long q2), (.long q3), (.int p4)] below meth c s₁ [] 0 0 := Stand.of_body Bd
  have e0 : s₁.heap = h0 := by rw [← hh, Bd.state]; rfl
  have N0 := Fr.nil n0
  refine own_out (own_nm fun G hG => own_st (fun zt zk => castTop (ef_rm0 m q0 q1 q2 q3 p4) zk) ?_)
  show own_Go p e below G (s₁.setTop (mkF m 0 #[.val (.long q0), .second, .val (.long q1), .second, .val (.long q2), .second, .val (.long q3), .second, .val (.int p4), .unset, .unset, .unset, .unset, .unset, .unset, .unset, .unset, .unset, .unset, .unset, .unset, .unset, .unset, .unset, .unset, .unset, .unset, .unset, .unset, .unset, .unset] []))
  refine own_st (fun zw zk => XS.lloadN X0.here hx rfl (hb hby at_0) rfl zk) ?_
  refine own_st (fun zw zk => X0.ldc2Long hx hown (mvT hZ (hw _ (List.mem_of_getElem? (i := 0) rfl))) (g := (mkF m 1 #[.val (.long q0), .second, .val (.long q1), .second, .val (.long q2), .second, .val (.long q3), .second, .val (.int p4), .unset, .unset, .unset, .unset, .unset, .unset, .unset, .unset, .unset, .unset, .unset, .unset, .unset, .unset, .unset, .unset, .unset, .unset, .unset, .unset, .unset, .unset] [(.long q0)])) rfl (hb hby at_1) _ zk) ?_
  refine own_st (fun zw zk => XS.land X0.here hx rfl (hb hby at_4) rfl zk) ?_
  refine own_st (fun zw zk => XS.iload X0.here hx rfl (hb hby at_5) rfl zk) ?_
  refine own_st (fun zw zk => XS.iconst X0.here hx rfl (hb hby at_7) zk) ?_
  obtain ⟨_, _, ⟨T1, L1, k1, n1⟩, -, X1, ⟨Lc1, hQ1, l1, y1, z1⟩, st1⟩ := Jvm.LawKit.callS X0 hx (y := (⟨"com/example/attestrum/attestrum/schemes/ec/P256FieldZeroMaskPinLaw", "pick", "(JII)J"⟩ : MethodName)) hown (mvT hZ (hw _ (List.mem_of_getElem? (i := 1) rfl))) (mvT hZ (hw _ (List.mem_of_getElem? (i := 2) rfl))) (mvT hZ (hw _ (List.mem_of_getElem? (i := 3) rfl))) (mvT hZ (hw _ (List.mem_of_getElem? (i := 4) rfl))) (by decide) (backOf (W := 0) (rm1 l Z a0 hw [] (q0 &&& (4294967295 : Int64)) p4 (0 : Int32) h0 n0 Z0) hZ (hw _ (List.mem_of_getElem? (i := 4) rfl)) (hw _ (List.mem_of_getElem? (i := 3) rfl)) (by decide) (by decide)) (g := (mkF m 8 #[.val (.long q0), .second, .val (.long q1), .second, .val (.long q2), .second, .val (.long q3), .second, .val (.int p4), .unset, .unset, .unset, .unset, .unset, .unset, .unset, .unset, .unset, .unset, .unset, .unset, .unset, .unset, .unset, .unset, .unset, .unset, .unset, .unset, .unset, .unset] [(.int (0 : Int32)), (.int p4), (.long (q0 &&& (4294967295 : Int64)))])) rfl (by rw [hml]; rfl) (argsL := [(.long (q0 &&& (4294967295 : Int64))), (.int p4), (.int (0 : Int32))]) (rest := []) (lenOf pd_0 rfl) rfl (by show 2 * 0 + _ ≤ _; exact Nat.le_of_eq rfl) (hb hby at_8) (fun _ _ => ⟨rfl, e0, (by decide : 0 + 0 ≤ _), (by decide : 0 + 0 ≤ _)⟩)
  dsimp only [Pt.U, Pt.locs, Pt.cells, Pt.slots] at X1 l1 y1 z1 st1 hQ1
  subst l1 y1 z1
  obtain ⟨rfl, N1q, e1⟩ := hQ1
  have N1 := Fr.app N0 N1q
  refine own_st (fun zw zk => st1 zw zk) ?_
  refine own_st (fun zw zk => XS.lstore X1.here hx rfl (hb hby at_11) rfl rfl zk) ?_
  show own_Go p e below G (T1.setTop (mkF m 13 #[.val (.long q0), .second, .val (.long q1), .second, .val (.long q2), .second, .val (.long q3), .second, .val (.int p4), .val (.long (own_pk (q0 &&& (4294967295 : Int64)) p4 (0 : Int32))), .second, .unset, .unset, .unset, .unset, .unset, .unset, .unset, .unset, .unset, .unset, .unset, .unset, .unset, .unset, .unset, .unset, .unset, .unset, .unset, .unset] []))
  generalize hv0 : (own_pk (q0 &&& (4294967295 : Int64)) p4 (0 : Int32)) = v0
  have b0 : own_small v0 := by rw [← hv0]; exact own_pks (own_smL _) _ _
  refine own_st (fun zw zk => XS.lloadN X1.here hx rfl (hb hby at_13) rfl zk) ?_
  refine own_st (fun zw zk => XS.bipush X1.here hx rfl (hb hby at_14) zk) ?_
  refine own_st (fun zw zk => XS.lushr X1.here hx rfl (hb hby at_16) rfl zk) ?_
  refine own_st (fun zw zk => XS.iload X1.here hx rfl (hb hby at_17) rfl zk) ?_
  refine own_st (fun zw zk => XS.iconst X1.here hx rfl (hb hby at_19) zk) ?_
  obtain ⟨_, _, ⟨T2, L2, k2, n2⟩, -, X2, ⟨Lc2, hQ2, l2, y2, z2⟩, st2⟩ := Jvm.LawKit.callS X1 hx (y := (⟨"com/example/attestrum/attestrum/schemes/ec/P256FieldZeroMaskPinLaw", "pick", "(JII)J"⟩ : MethodName)) hown (mvT hZ (hw _ (List.mem_of_getElem? (i := 1) rfl))) (mvT hZ (hw _ (List.mem_of_getElem? (i := 2) rfl))) (mvT hZ (hw _ (List.mem_of_getElem? (i := 3) rfl))) (mvT hZ (hw _ (List.mem_of_getElem? (i := 4) rfl))) (by decide) (backOf (W := 0) (rm1 l Z a0 hw [] ((q0.toUInt64 >>> ((32 : Int32) &&& 0x3f).toInt64.toUInt64).toInt64) p4 (1 : Int32) h0 n0 Z0) hZ (hw _ (List.mem_of_getElem? (i := 4) rfl)) (hw _ (List.mem_of_getElem? (i := 3) rfl)) (by decide) (by decide)) (g := (mkF m 20 #[.val (.long q0), .second, .val (.long q1), .second, .val (.long q2), .second, .val (.long q3), .second, .val (.int p4), .val (.long v0), .second, .unset, .unset, .unset, .unset, .unset, .unset, .unset, .unset, .unset, .unset, .unset, .unset, .unset, .unset, .unset, .unset, .unset, .unset, .unset, .unset] [(.int (1 : Int32)), (.int p4), (.long ((q0.toUInt64 >>> ((32 : Int32) &&& 0x3f).toInt64.toUInt64).toInt64))])) rfl (by rw [hml]; rfl) (argsL := [(.long ((q0.toUInt64 >>> ((32 : Int32) &&& 0x3f).toInt64.toUInt64).toInt64)), (.int p4), (.int (1 : Int32))]) (rest := []) (lenOf pd_0 rfl) rfl (by show 2 * 0 + _ ≤ _; exact Nat.le_of_eq rfl) (hb hby at_20) (fun _ _ => ⟨rfl, e1, (by decide : 0 + 0 ≤ _), (by decide : 0 + 0 ≤ _)⟩)
  dsimp only [Pt.U, Pt.locs, Pt.cells, Pt.slots] at X2 l2 y2 z2 st2 hQ2
  subst l2 y2 z2
  obtain ⟨rfl, N2q, e2⟩ := hQ2
  have N2 := Fr.app N1 N2q
  refine own_st (fun zw zk => st2 zw zk) ?_
  refine own_st (fun zw zk => XS.lstore X2.here hx rfl (hb hby at_23) rfl rfl zk) ?_
  show own_Go p e below G (T2.setTop (mkF m 25 #[.val (.long q0), .second, .val (.long q1), .second, .val (.long q2), .second, .val (.long q3), .second, .val (.int p4), .val (.long v0), .second, .val (.long (own_pk ((q0.toUInt64 >>> ((32 : Int32) &&& 0x3f).toInt64.toUInt64).toInt64) p4 (1 : Int32))), .second, .unset, .unset, .unset, .unset, .unset, .unset, .unset, .unset, .unset, .unset, .unset, .unset, .unset, .unset, .unset, .unset, .unset, .unset] []))
  generalize hv1 : (own_pk ((q0.toUInt64 >>> ((32 : Int32) &&& 0x3f).toInt64.toUInt64).toInt64) p4 (1 : Int32)) = v1
  have b1 : own_small v1 := by rw [← hv1]; exact own_pks (own_smH _) _ _
  refine own_st (fun zw zk => XS.lloadN X2.here hx rfl (hb hby at_25) rfl zk) ?_
  refine own_st (fun zw zk => X2.ldc2Long hx hown (mvT hZ (hw _ (List.mem_of_getElem? (i := 0) rfl))) (g := (mkF m 26 #[.val (.long q0), .second, .val (.long q1), .second, .val (.long q2), .second, .val (.long q3), .second, .val (.int p4), .val (.long v0), .second, .val (.long v1), .second, .unset, .unset, .unset, .unset, .unset, .unset, .unset, .unset, .unset, .unset, .unset, .unset, .unset, .unset, .unset, .unset, .unset, .unset] [(.long q1)])) rfl (hb hby at_26) _ zk) ?_
  refine own_st (fun zw zk => XS.land X2.here hx rfl (hb hby at_29) rfl zk) ?_
  refine own_st (fun zw zk => XS.iload X2.here hx rfl (hb hby at_30) rfl zk) ?_
  refine own_st (fun zw zk => XS.iconst X2.here hx rfl (hb hby at_32) zk) ?_
  obtain ⟨_, _, ⟨T3, L3, k3, n3⟩, -, X3, ⟨Lc3, hQ3, l3, y3, z3⟩, st3⟩ := Jvm.LawKit.callS X2 hx (y := (⟨"com/example/attestrum/attestrum/schemes/ec/P256FieldZeroMaskPinLaw", "pick", "(JII)J"⟩ : MethodName)) hown (mvT hZ (hw _ (List.mem_of_getElem? (i := 1) rfl))) (mvT hZ (hw _ (List.mem_of_getElem? (i := 2) rfl))) (mvT hZ (hw _ (List.mem_of_getElem? (i := 3) rfl))) (mvT hZ (hw _ (List.mem_of_getElem? (i := 4) rfl))) (by decide) (backOf (W := 0) (rm1 l Z a0 hw [] (q1 &&& (4294967295 : Int64)) p4 (2 : Int32) h0 n0 Z0) hZ (hw _ (List.mem_of_getElem? (i := 4) rfl)) (hw _ (List.mem_of_getElem? (i := 3) rfl)) (by decide) (by decide)) (g := (mkF m 33 #[.val (.long q0), .second, .val (.long q1), .second, .val (.long q2), .second, .val (.long q3), .second, .val (.int p4), .val (.long v0), .second, .val (.long v1), .second, .unset, .unset, .unset, .unset, .unset, .unset, .unset, .unset, .unset, .unset, .unset, .unset, .unset, .unset, .unset, .unset, .unset, .unset] [(.int (2 : Int32)), (.int p4), (.long (q1 &&& (4294967295 : Int64)))])) rfl (by rw [hml]; rfl) (argsL := [(.long (q1 &&& (4294967295 : Int64))), (.int p4), (.int (2 : Int32))]) (rest := []) (lenOf pd_0 rfl) rfl (by show 2 * 0 + _ ≤ _; exact Nat.le_of_eq rfl) (hb hby at_33) (fun _ _ => ⟨rfl, e2, (by decide : 0 + 0 ≤ _), (by decide : 0 + 0 ≤ _)⟩)
  dsimp only [Pt.U, Pt.locs, Pt.cells, Pt.slots] at X3 l3 y3 z3 st3 hQ3
  subst l3 y3 z3
  obtain ⟨rfl, N3q, e3⟩ := hQ3
  have N3 := Fr.app N2 N3q
  refine own_st (fun zw zk => st3 zw zk) ?_
  refine own_st (fun zw zk => XS.lstore X3.here hx rfl (hb hby at_36) rfl rfl zk) ?_
  show own_Go p e below G (T3.setTop (mkF m 38 #[.val (.long q0), .second, .val (.long q1), .second, .val (.long q2), .second, .val (.long q3), .second, .val (.int p4), .val (.long v0), .second, .val (.long v1), .second, .val (.long (own_pk (q1 &&& (4294967295 : Int64)) p4 (2 : Int32))), .second, .unset, .unset, .unset, .unset, .unset, .unset, .unset, .unset, .unset, .unset, .unset, .unset, .unset, .unset, .unset, .unset] []))
  generalize hv2 : (own_pk (q1 &&& (4294967295 : Int64)) p4 (2 : Int32)) = v2
  have b2 : own_small v2 := by rw [← hv2]; exact own_pks (own_smL _) _ _
  refine own_st (fun zw zk => XS.lloadN X3.here hx rfl (hb hby at_38) rfl zk) ?_
  refine own_st (fun zw zk => XS.bipush X3.here hx rfl (hb hby at_39) zk) ?_
  refine own_st (fun zw zk => XS.lushr X3.here hx rfl (hb hby at_41) rfl zk) ?_
  refine own_st (fun zw zk => XS.iload X3.here hx rfl (hb hby at_42) rfl zk) ?_
  refine own_st (fun zw zk => XS.iconst X3.here hx rfl (hb hby at_44) zk) ?_
  obtain ⟨_, _, ⟨T4, L4, k4, n4⟩, -, X4, ⟨Lc4, hQ4, l4, y4, z4⟩, st4⟩ := Jvm.LawKit.callS X3 hx (y := (⟨"com/example/attestrum/attestrum/schemes/ec/P256FieldZeroMaskPinLaw", "pick", "(JII)J"⟩ : MethodName)) hown (mvT hZ (hw _ (List.mem_of_getElem? (i := 1) rfl))) (mvT hZ (hw _ (List.mem_of_getElem? (i := 2) rfl))) (mvT hZ (hw _ (List.mem_of_getElem? (i := 3) rfl))) (mvT hZ (hw _ (List.mem_of_getElem? (i := 4) rfl))) (by decide) (backOf (W := 0) (rm1 l Z a0 hw [] ((q1.toUInt64 >>> ((32 : Int32) &&& 0x3f).toInt64.toUInt64).toInt64) p4 (3 : Int32) h0 n0 Z0) hZ (hw _ (List.mem_of_getElem? (i := 4) rfl)) (hw _ (List.mem_of_getElem? (i := 3) rfl)) (by decide) (by decide)) (g := (mkF m 45 #[.val (.long q0), .second, .val (.long q1), .second, .val (.long q2), .second, .val (.long q3), .second, .val (.int p4), .val (.long v0), .second, .val (.long v1), .second, .val (.long v2), .second, .unset, .unset, .unset, .unset, .unset, .unset, .unset, .unset, .unset, .unset, .unset, .unset, .unset, .unset, .unset, .unset] [(.int (3 : Int32)), (.int p4), (.long ((q1.toUInt64 >>> ((32 : Int32) &&& 0x3f).toInt64.toUInt64).toInt64))])) rfl (by rw [hml]; rfl) (argsL := [(.long ((q1.toUInt64 >>> ((32 : Int32) &&& 0x3f).toInt64.toUInt64).toInt64)), (.int p4), (.int (3 : Int32))]) (rest := []) (lenOf pd_0 rfl) rfl (by show 2 * 0 + _ ≤ _; exact Nat.le_of_eq rfl) (hb hby at_45) (fun _ _ => ⟨rfl, e3, (by decide : 0 + 0 ≤ _), (by decide : 0 + 0 ≤ _)⟩)
  dsimp only [Pt.U, Pt.locs, Pt.cells, Pt.slots] at X4 l4 y4 z4 st4 hQ4
  subst l4 y4 z4
  obtain ⟨rfl, N4q, e4⟩ := hQ4
  have N4 := Fr.app N3 N4q
  refine own_st (fun zw zk => st4 zw zk) ?_
  refine own_st (fun zw zk => XS.lstore X4.here hx rfl (hb hby at_48) rfl rfl zk) ?_
  show own_Go p e below G (T4.setTop (mkF m 50 #[.val (.long q0), .second, .val (.long q1), .second, .val (.long q2), .second, .val (.long q3), .second, .val (.int p4), .val (.long v0), .second, .val (.long v1), .second, .val (.long v2), .second, .val (.long (own_pk ((q1.toUInt64 >>> ((32 : Int32) &&& 0x3f).toInt64.toUInt64).toInt64) p4 (3 : Int32))), .second, .unset, .unset, .unset, .unset, .unset, .unset, .unset, .unset, .unset, .unset, .unset, .unset, .unset, .unset] []))
  generalize hv3 : (own_pk ((q1.toUInt64 >>> ((32 : Int32) &&& 0x3f).toInt64.toUInt64).toInt64) p4 (3 : Int32)) = v3
  have b3 : own_small v3 := by rw [← hv3]; exact own_pks (own_smH _) _ _
  refine own_st (fun zw zk => XS.lload X4.here hx rfl (hb hby at_50) rfl zk) ?_
  refine own_st (fun zw zk => X4.ldc2Long hx hown (mvT hZ (hw _ (List.mem_of_getElem? (i := 0) rfl))) (g := (mkF m 52 #[.val (.long q0), .second, .val (.long q1), .second, .val (.long q2), .second, .val (.long q3), .second, .val (.int p4), .val (.long v0), .second, .val (.long v1), .second, .val (.long v2), .second, .val (.long v3), .second, .unset, .unset, .unset, .unset, .unset, .unset, .unset, .unset, .unset, .unset, .unset, .unset, .unset, .unset] [(.long q2)])) rfl (hb hby at_52) _ zk) ?_
  refine own_st (fun zw zk => XS.land X4.here hx rfl (hb hby at_55) rfl zk) ?_
  refine own_st (fun zw zk => XS.iload X4.here hx rfl (hb hby at_56) rfl zk) ?_
  refine own_st (fun zw zk => XS.iconst X4.here hx rfl (hb hby at_58) zk) ?_
  obtain ⟨_, _, ⟨T5, L5, k5, n5⟩, -, X5, ⟨Lc5, hQ5, l5, y5, z5⟩, st5⟩ := Jvm.LawKit.callS X4 hx (y := (⟨"com/example/attestrum/attestrum/schemes/ec/P256FieldZeroMaskPinLaw", "pick", "(JII)J"⟩ : MethodName)) hown (mvT hZ (hw _ (List.mem_of_getElem? (i := 1) rfl))) (mvT hZ (hw _ (List.mem_of_getElem? (i := 2) rfl))) (mvT hZ (hw _ (List.mem_of_getElem? (i := 3) rfl))) (mvT hZ (hw _ (List.mem_of_getElem? (i := 4) rfl))) (by decide) (backOf (W := 0) (rm1 l Z a0 hw [] (q2 &&& (4294967295 : Int64)) p4 (4 : Int32) h0 n0 Z0) hZ (hw _ (List.mem_of_getElem? (i := 4) rfl)) (hw _ (List.mem_of_getElem? (i := 3) rfl)) (by decide) (by decide)) (g := (mkF m 59 #[.val (.long q0), .second, .val (.long q1), .second, .val (.long q2), .second, .val (.long q3), .second, .val (.int p4), .val (.long v0), .second, .val (.long v1), .second, .val (.long v2), .second, .val (.long v3), .second, .unset, .unset, .unset, .unset, .unset, .unset, .unset, .unset, .unset, .unset, .unset, .unset, .unset, .unset] [(.int (4 : Int32)), (.int p4), (.long (q2 &&& (4294967295 : Int64)))])) rfl (by rw [hml]; rfl) (argsL := [(.long (q2 &&& (4294967295 : Int64))), (.int p4), (.int (4 : Int32))]) (rest := []) (lenOf pd_0 rfl) rfl (by show 2 * 0 + _ ≤ _; exact Nat.le_of_eq rfl) (hb hby at_59) (fun _ _ => ⟨rfl, e4, (by decide : 0 + 0 ≤ _), (by decide : 0 + 0 ≤ _)⟩)
  dsimp only [Pt.U, Pt.locs, Pt.cells, Pt.slots] at X5 l5 y5 z5 st5 hQ5
  subst l5 y5 z5
  obtain ⟨rfl, N5q, e5⟩ := hQ5
  have N5 := Fr.app N4 N5q
  refine own_st (fun zw zk => st5 zw zk) ?_
  refine own_st (fun zw zk => XS.lstore X5.here hx rfl (hb hby at_62) rfl rfl zk) ?_
  show own_Go p e below G (T5.setTop (mkF m 64 #[.val (.long q0), .second, .val (.long q1), .second, .val (.long q2), .second, .val (.long q3), .second, .val (.int p4), .val (.long v0), .second, .val (.long v1), .second, .val (.long v2), .second, .val (.long v3), .second, .val (.long (own_pk (q2 &&& (4294967295 : Int64)) p4 (4 : Int32))), .second, .unset, .unset, .unset, .unset, .unset, .unset, .unset, .unset, .unset, .unset, .unset, .unset] []))
  generalize hv4 : (own_pk (q2 &&& (4294967295 : Int64)) p4 (4 : Int32)) = v4
  have b4 : own_small v4 := by rw [← hv4]; exact own_pks (own_smL _) _ _
  refine own_st (fun zw zk => XS.lload X5.here hx rfl (hb hby at_64) rfl zk) ?_
  refine own_st (fun zw zk => XS.bipush X5.here hx rfl (hb hby at_66) zk) ?_
  refine own_st (fun zw zk => XS.lushr X5.here hx rfl (hb hby at_68) rfl zk) ?_
  refine own_st (fun zw zk => XS.iload X5.here hx rfl (hb hby at_69) rfl zk) ?_
  refine own_st (fun zw zk => XS.iconst X5.here hx rfl (hb hby at_71) zk) ?_
  obtain ⟨_, _, ⟨T6, L6, k6, n6⟩, -, X6, ⟨Lc6, hQ6, l6, y6, z6⟩, st6⟩ := Jvm.LawKit.callS X5 hx (y := (⟨"com/example/attestrum/attestrum/schemes/ec/P256FieldZeroMaskPinLaw", "pick", "(JII)J"⟩ : MethodName)) hown (mvT hZ (hw _ (List.mem_of_getElem? (i := 1) rfl))) (mvT hZ (hw _ (List.mem_of_getElem? (i := 2) rfl))) (mvT hZ (hw _ (List.mem_of_getElem? (i := 3) rfl))) (mvT hZ (hw _ (List.mem_of_getElem? (i := 4) rfl))) (by decide) (backOf (W := 0) (rm1 l Z a0 hw [] ((q2.toUInt64 >>> ((32 : Int32) &&& 0x3f).toInt64.toUInt64).toInt64) p4 (5 : Int32) h0 n0 Z0) hZ (hw _ (List.mem_of_getElem? (i := 4) rfl)) (hw _ (List.mem_of_getElem? (i := 3) rfl)) (by decide) (by decide)) (g := (mkF m 72 #[.val (.long q0), .second, .val (.long q1), .second, .val (.long q2), .second, .val (.long q3), .second, .val (.int p4), .val (.long v0), .second, .val (.long v1), .second, .val (.long v2), .second, .val (.long v3), .second, .val (.long v4), .second, .unset, .unset, .unset, .unset, .unset, .unset, .unset, .unset, .unset, .unset, .unset, .unset] [(.int (5 : Int32)), (.int p4), (.long ((q2.toUInt64 >>> ((32 : Int32) &&& 0x3f).toInt64.toUInt64).toInt64))])) rfl (by rw [hml]; rfl) (argsL := [(.long ((q2.toUInt64 >>> ((32 : Int32) &&& 0x3f).toInt64.toUInt64).toInt64)), (.int p4), (.int (5 : Int32))]) (rest := []) (lenOf pd_0 rfl) rfl (by show 2 * 0 + _ ≤ _; exact Nat.le_of_eq rfl) (hb hby at_72) (fun _ _ => ⟨rfl, e5, (by decide : 0 + 0 ≤ _), (by decide : 0 + 0 ≤ _)⟩)
  dsimp only [Pt.U, Pt.locs, Pt.cells, Pt.slots] at X6 l6 y6 z6 st6 hQ6
  subst l6 y6 z6
  obtain ⟨rfl, N6q, e6⟩ := hQ6
  have N6 := Fr.app N5 N6q
  refine own_st (fun zw zk => st6 zw zk) ?_
  refine own_st (fun zw zk => XS.lstore X6.here hx rfl (hb hby at_75) rfl rfl zk) ?_
  show own_Go p e below G (T6.setTop (mkF m 77 #[.val (.long q0), .second, .val (.long q1), .second, .val (.long q2), .second, .val (.long q3), .second, .val (.int p4), .val (.long v0), .second, .val (.long v1), .second, .val (.long v2), .second, .val (.long v3), .second, .val (.long v4), .second, .val (.long (own_pk ((q2.toUInt64 >>> ((32 : Int32) &&& 0x3f).toInt64.toUInt64).toInt64) p4 (5 : Int32))), .second, .unset, .unset, .unset, .unset, .unset, .unset, .unset, .unset, .unset, .unset] []))
  generalize hv5 : (own_pk ((q2.toUInt64 >>> ((32 : Int32) &&& 0x3f).toInt64.toUInt64).toInt64) p4 (5 : Int32)) = v5
  have b5 : own_small v5 := by rw [← hv5]; exact own_pks (own_smH _) _ _
  refine own_st (fun zw zk => XS.lload X6.here hx rfl (hb hby at_77) rfl zk) ?_
  refine own_st (fun zw zk => X6.ldc2Long hx hown (mvT hZ (hw _ (List.mem_of_getElem? (i := 0) rfl))) (g := (mkF m 79 #[.val (.long q0), .second, .val (.long q1), .second, .val (.long q2), .second, .val (.long q3), .second, .val (.int p4), .val (.long v0), .second, .val (.long v1), .second, .val (.long v2), .second, .val (.long v3), .second, .val (.long v4), .second, .val (.long v5), .second, .unset, .unset, .unset, .unset, .unset, .unset, .unset, .unset, .unset, .unset] [(.long q3)])) rfl (hb hby at_79) _ zk) ?_
  refine own_st (fun zw zk => XS.land X6.here hx rfl (hb hby at_82) rfl zk) ?_
  refine own_st (fun zw zk => XS.iload X6.here hx rfl (hb hby at_83) rfl zk) ?_
  refine own_st (fun zw zk => XS.bipush X6.here hx rfl (hb hby at_85) zk) ?_
  obtain ⟨_, _, ⟨T7, L7, k7, n7⟩, -, X7, ⟨Lc7, hQ7, l7, y7, z7⟩, st7⟩ := Jvm.LawKit.callS X6 hx (y := (⟨"com/example/attestrum/attestrum/schemes/ec/P256FieldZeroMaskPinLaw", "pick", "(JII)J"⟩ : MethodName)) hown (mvT hZ (hw _ (List.mem_of_getElem? (i := 1) rfl))) (mvT hZ (hw _ (List.mem_of_getElem? (i := 2) rfl))) (mvT hZ (hw _ (List.mem_of_getElem? (i := 3) rfl))) (mvT hZ (hw _ (List.mem_of_getElem? (i := 4) rfl))) (by decide) (backOf (W := 0) (rm1 l Z a0 hw [] (q3 &&& (4294967295 : Int64)) p4 (6 : Int32) h0 n0 Z0) hZ (hw _ (List.mem_of_getElem? (i := 4) rfl)) (hw _ (List.mem_of_getElem? (i := 3) rfl)) (by decide) (by decide)) (g := (mkF m 87 #[.val (.long q0), .second, .val (.long q1), .second, .val (.long q2), .second, .val (.long q3), .second, .val (.int p4), .val (.long v0), .second, .val (.long v1), .second, .val (.long v2), .second, .val (.long v3), .second, .val (.long v4), .second, .val (.long v5), .second, .unset, .unset, .unset, .unset, .unset, .unset, .unset, .unset, .unset, .unset] [(.int (6 : Int32)), (.int p4), (.long (q3 &&& (4294967295 : Int64)))])) rfl (by rw [hml]; rfl) (argsL := [(.long (q3 &&& (4294967295 : Int64))), (.int p4), (.int (6 : Int32))]) (rest := []) (lenOf pd_0 rfl) rfl (by show 2 * 0 + _ ≤ _; exact Nat.le_of_eq rfl) (hb hby at_87) (fun _ _ => ⟨rfl, e6, (by decide : 0 + 0 ≤ _), (by decide : 0 + 0 ≤ _)⟩)
  dsimp only [Pt.U, Pt.locs, Pt.cells, Pt.slots] at X7 l7 y7 z7 st7 hQ7
  subst l7 y7 z7
  obtain ⟨rfl, N7q, e7⟩ := hQ7
  have N7 := Fr.app N6 N7q
  refine own_st (fun zw zk => st7 zw zk) ?_
  refine own_st (fun zw zk => XS.lstore X7.here hx rfl (hb hby at_90) rfl rfl zk) ?_
  show own_Go p e below G (T7.setTop (mkF m 92 #[.val (.long q0), .second, .val (.long q1), .second, .val (.long q2), .second, .val (.long q3), .second, .val (.int p4), .val (.long v0), .second, .val (.long v1), .second, .val (.long v2), .second, .val (.long v3), .second, .val (.long v4), .second, .val (.long v5), .second, .val (.long (own_pk (q3 &&& (4294967295 : Int64)) p4 (6 : Int32))), .second, .unset, .unset, .unset, .unset, .unset, .unset, .unset, .unset] []))
  generalize hv6 : (own_pk (q3 &&& (4294967295 : Int64)) p4 (6 : Int32)) = v6
  have b6 : own_small v6 := by rw [← hv6]; exact own_pks (own_smL _) _ _
  refine own_st (fun zw zk => XS.lload X7.here hx rfl (hb hby at_92) rfl zk) ?_
  refine own_st (fun zw zk => XS.bipush X7.here hx rfl (hb hby at_94) zk) ?_
  refine own_st (fun zw zk => XS.lushr X7.here hx rfl (hb hby at_96) rfl zk) ?_
  refine own_st (fun zw zk => XS.iload X7.here hx rfl (hb hby at_97) rfl zk) ?_
  refine own_st (fun zw zk => XS.bipush X7.here hx rfl (hb hby at_99) zk) ?_
  obtain ⟨_, _, ⟨T8, L8, k8, n8⟩, -, X8, ⟨Lc8, hQ8, l8, y8, z8⟩, st8⟩ := Jvm.LawKit.callS X7 hx (y := (⟨"com/example/attestrum/attestrum/schemes/ec/P256FieldZeroMaskPinLaw", "pick", "(JII)J"⟩ : MethodName)) hown (mvT hZ (hw _ (List.mem_of_getElem? (i := 1) rfl))) (mvT hZ (hw _ (List.mem_of_getElem? (i := 2) rfl))) (mvT hZ (hw _ (List.mem_of_getElem? (i := 3) rfl))) (mvT hZ (hw _ (List.mem_of_getElem? (i := 4) rfl))) (by decide) (backOf (W := 0) (rm1 l Z a0 hw [] ((q3.toUInt64 >>> ((32 : Int32) &&& 0x3f).toInt64.toUInt64).toInt64) p4 (7 : Int32) h0 n0 Z0) hZ (hw _ (List.mem_of_getElem? (i := 4) rfl)) (hw _ (List.mem_of_getElem? (i := 3) rfl)) (by decide) (by decide)) (g := (mkF m 101 #[.val (.long q0), .second, .val (.long q1), .second, .val (.long q2), .second, .val (.long q3), .second, .val (.int p4), .val (.long v0), .second, .val (.long v1), .second, .val (.long v2), .second, .val (.long v3), .second, .val (.long v4), .second, .val (.long v5), .second, .val (.long v6), .second, .unset, .unset, .unset, .unset, .unset, .unset, .unset, .unset] [(.int (7 : Int32)), (.int p4), (.long ((q3.toUInt64 >>> ((32 : Int32) &&& 0x3f).toInt64.toUInt64).toInt64))])) rfl (by rw [hml]; rfl) (argsL := [(.long ((q3.toUInt64 >>> ((32 : Int32) &&& 0x3f).toInt64.toUInt64).toInt64)), (.int p4), (.int (7 : Int32))]) (rest := []) (lenOf pd_0 rfl) rfl (by show 2 * 0 + _ ≤ _; exact Nat.le_of_eq rfl) (hb hby at_101) (fun _ _ => ⟨rfl, e7, (by decide : 0 + 0 ≤ _), (by decide : 0 + 0 ≤ _)⟩)
  dsimp only [Pt.U, Pt.locs, Pt.cells, Pt.slots] at X8 l8 y8 z8 st8 hQ8
  subst l8 y8 z8
  obtain ⟨rfl, N8q, e8⟩ := hQ8
  have N8 := Fr.app N7 N8q
  refine own_st (fun zw zk => st8 zw zk) ?_
  refine own_st (fun zw zk => XS.lstore X8.here hx rfl (hb hby at_104) rfl rfl zk) ?_
  show own_Go p e below G (T8.setTop (mkF m 106 #[.val (.long q0), .second, .val (.long q1), .second, .val (.long q2), .second, .val (.long q3), .second, .val (.int p4), .val (.long v0), .second, .val (.long v1), .second, .val (.long v2), .second, .val (.long v3), .second, .val (.long v4), .second, .val (.long v5), .second, .val (.long v6), .second, .val (.long (own_pk ((q3.toUInt64 >>> ((32 : Int32) &&& 0x3f).toInt64.toUInt64).toInt64) p4 (7 : Int32))), .second, .unset, .unset, .unset, .unset, .unset, .unset] []))
  generalize hv7 : (own_pk ((q3.toUInt64 >>> ((32 : Int32) &&& 0x3f).toInt64.toUInt64).toInt64) p4 (7 : Int32)) = v7
  have b7 : own_small v7 := by rw [← hv7]; exact own_pks (own_smH _) _ _
  refine own_st (fun zw zk => XS.bipush X8.here hx rfl (hb hby at_106) zk) ?_
  obtain ⟨T9, h9, k9, X9, e9, E9, A9, st9⟩ := newP X8 hx hZ (hw _ (List.mem_of_getElem? (i := 5) rfl)) e8 (g := (mkF m 108 #[.val (.long q0), .second, .val (.long q1), .second, .val (.long q2), .second, .val (.long q3), .second, .val (.int p4), .val (.long v0), .second, .val (.long v1), .second, .val (.long v2), .second, .val (.long v3), .second, .val (.long v4), .second, .val (.long v5), .second, .val (.long v6), .second, .val (.long v7), .second, .unset, .unset, .unset, .unset, .unset, .unset] [(.int (8 : Int32))])) rfl (hb hby at_108) rfl (by decide) (cap := 8) (by decide) (by decide) (by decide) (by decide)
  obtain ⟨b9, g9⟩ : ∃ z, z = h0.size := ⟨_, rfl⟩
  rw [← g9] at A9 st9
  have G9 : n0 ≤ b9 := Nat.le_trans Z0 (Nat.le_of_eq g9.symm)
  have Z9 : n0 ≤ h9.size := Nat.le_trans Z0 E9.1
  have V9 : own_L Z h9 b9 .long ([(.long (0 : Int64)), (.long (0 : Int64)), (.long (0 : Int64)), (.long (0 : Int64)), (.long (0 : Int64)), (.long (0 : Int64)), (.long (0 : Int64)), (.long (0 : Int64))]) := own_L.new A9
  refine own_st (fun zw zk => st9 zw zk) ?_
  refine own_st (fun zw zk => XS.astore X9.here hx rfl (hb hby at_110) rfl rfl rfl zk) ?_
  show own_Go p e below G (T9.setTop (mkF m 112 #[.val (.long q0), .second, .val (.long q1), .second, .val (.long q2), .second, .val (.long q3), .second, .val (.int p4), .val (.long v0), .second, .val (.long v1), .second, .val (.long v2), .second, .val (.long v3), .second, .val (.long v4), .second, .val (.long v5), .second, .val (.long v6), .second, .val (.long v7), .second, .val (.ref b9), .unset, .unset, .unset, .unset, .unset] []))
  refine own_st (fun zw zk => XS.aload X9.here hx rfl (hb hby at_112) rfl rfl zk) ?_
  refine own_st (fun zw zk => XS.iconst X9.here hx rfl (hb hby at_114) zk) ?_
  refine own_st (fun zw zk => XS.lload X9.here hx rfl (hb hby at_115) rfl zk) ?_
  obtain ⟨T10, h10, X10, e10, W10, V10, st10⟩ := own_jst X9 hx hZ e9 V9 (j := (0 : Int32)) (0) (by decide) (by decide) (Nat.le_of_ble_eq_true rfl) (g := (mkF m 117 #[.val (.long q0), .second, .val (.long q1), .second, .val (.long q2), .second, .val (.long q3), .second, .val (.int p4), .val (.long v0), .second, .val (.long v1), .second, .val (.long v2), .second, .val (.long v3), .second, .val (.long v4), .second, .val (.long v5), .second, .val (.long v6), .second, .val (.long v7), .second, .val (.ref b9), .unset, .unset, .unset, .unset, .unset] [(.long v0), (.int (0 : Int32)), (.ref b9)])) rfl rfl (hb hby at_117)
  have Vb9_10 : own_L Z h10 b9 .long ([(.long v0), (.long (0 : Int64)), (.long (0 : Int64)), (.long (0 : Int64)), (.long (0 : Int64)), (.long (0 : Int64)), (.long (0 : Int64)), (.long (0 : Int64))]) := V10
  have N10 := Fr.snoc X10 N8 G9
  refine own_st (fun zw zk => st10 zw zk) ?_
  have Z10 : n0 ≤ h10.size := Nat.le_trans Z9 (Keep.of_wr W10).1
  refine own_st (fun zw zk => XS.aload X10.here hx rfl (hb hby at_118) rfl rfl zk) ?_
  refine own_st (fun zw zk => XS.iconst X10.here hx rfl (hb hby at_120) zk) ?_
  refine own_st (fun zw zk => XS.lload X10.here hx rfl (hb hby at_121) rfl zk) ?_
  obtain ⟨T11, h11, X11, e11, W11, V11, st11⟩ := own_jst X10 hx hZ e10 Vb9_10 (j := (1 : Int32)) (1) (by decide) (by decide) (Nat.le_of_ble_eq_true rfl) (g := (mkF m 123 #[.val (.long q0), .second, .val (.long q1), .second, .val (.long q2), .second, .val (.long q3), .second, .val (.int p4), .val (.long v0), .second, .val (.long v1), .second, .val (.long v2), .second, .val (.long v3), .second, .val (.long v4), .second, .val (.long v5), .second, .val (.long v6), .second, .val (.long v7), .second, .val (.ref b9), .unset, .unset, .unset, .unset, .unset] [(.long v1), (.int (1 : Int32)), (.ref b9)])) rfl rfl (hb hby at_123)
  have Vb9_11 : own_L Z h11 b9 .long ([(.long v0), (.long v1), (.long (0 : Int64)), (.long (0 : Int64)), (.long (0 : Int64)), (.long (0 : Int64)), (.long (0 : Int64)), (.long (0 : Int64))]) := V11
  have N11 := Fr.snoc X11 N10 G9
  refine own_st (fun zw zk => st11 zw zk) ?_
  have Z11 : n0 ≤ h11.size := Nat.le_trans Z10 (Keep.of_wr W11).1
  show own_Go p e below G (T11.setTop (mkF m 124 #[.val (.long q0), .second, .val (.long q1), .second, .val (.long q2), .second, .val (.long q3), .second, .val (.int p4), .val (.long v0), .second, .val (.long v1), .second, .val (.long v2), .second, .val (.long v3), .second, .val (.long v4), .second, .val (.long v5), .second, .val (.long v6), .second, .val (.long v7), .second, .val (.ref b9), .unset, .unset, .unset, .unset, .unset] []))
  refine own_st (fun zw zk => XS.aload X11.here hx rfl (hb hby at_124) rfl rfl zk) ?_
  refine own_st (fun zw zk => XS.iconst X11.here hx rfl (hb hby at_126) zk) ?_
  refine own_st (fun zw zk => XS.lload X11.here hx rfl (hb hby at_127) rfl zk) ?_
  obtain ⟨T12, h12, X12, e12, W12, V12, st12⟩ := own_jst X11 hx hZ e11 Vb9_11 (j := (2 : Int32)) (2) (by decide) (by decide) (Nat.le_of_ble_eq_true rfl) (g := (mkF m 129 #[.val (.long q0), .second, .val (.long q1), .second, .val (.long q2), .second, .val (.long q3), .second, .val (.int p4), .val (.long v0), .second, .val (.long v1), .second, .val (.long v2), .second, .val (.long v3), .second, .val (.long v4), .second, .val (.long v5), .second, .val (.long v6), .second, .val (.long v7), .second, .val (.ref b9), .unset, .unset, .unset, .unset, .unset] [(.long v2), (.int (2 : Int32)), (.ref b9)])) rfl rfl (hb hby at_129)
  have Vb9_12 : own_L Z h12 b9 .long ([(.long v0), (.long v1), (.long v2), (.long (0 : Int64)), (.long (0 : Int64)), (.long (0 : Int64)), (.long (0 : Int64)), (.long (0 : Int64))]) := V12
  have N12 := Fr.snoc X12 N11 G9
  refine own_st (fun zw zk => st12 zw zk) ?_
  have Z12 : n0 ≤ h12.size := Nat.le_trans Z11 (Keep.of_wr W12).1
  refine own_st (fun zw zk => XS.aload X12.here hx rfl (hb hby at_130) rfl rfl zk) ?_
  refine own_st (fun zw zk => XS.iconst X12.here hx rfl (hb hby at_132) zk) ?_
  refine own_st (fun zw zk => XS.lload X12.here hx rfl (hb hby at_133) rfl zk) ?_
  obtain ⟨T13, h13, X13, e13, W13, V13, st13⟩ := own_jst X12 hx hZ e12 Vb9_12 (j := (3 : Int32)) (3) (by decide) (by decide) (Nat.le_of_ble_eq_true rfl) (g := (mkF m 135 #[.val (.long q0), .second, .val (.long q1), .second, .val (.long q2), .second, .val (.long q3), .second, .val (.int p4), .val (.long v0), .second, .val (.long v1), .second, .val (.long v2), .second, .val (.long v3), .second, .val (.long v4), .second, .val (.long v5), .second, .val (.long v6), .second, .val (.long v7), .second, .val (.ref b9), .unset, .unset, .unset, .unset, .unset] [(.long v3), (.int (3 : Int32)), (.ref b9)])) rfl rfl (hb hby at_135)
  have Vb9_13 : own_L Z h13 b9 .long ([(.long v0), (.long v1), (.long v2), (.long v3), (.long (0 : Int64)), (.long (0 : Int64)), (.long (0 : Int64)), (.long (0 : Int64))]) := V13
  have N13 := Fr.snoc X13 N12 G9
  refine own_st (fun zw zk => st13 zw zk) ?_
  have Z13 : n0 ≤ h13.size := Nat.le_trans Z12 (Keep.of_wr W13).1
  show own_Go p e below G (T13.setTop (mkF m 136 #[.val (.long q0), .second, .val (.long q1), .second, .val (.long q2), .second, .val (.long q3), .second, .val (.int p4), .val (.long v0), .second, .val (.long v1), .second, .val (.long v2), .second, .val (.long v3), .second, .val (.long v4), .second, .val (.long v5), .second, .val (.long v6), .second, .val (.long v7), .second, .val (.ref b9), .unset, .unset, .unset, .unset, .unset] []))
  refine own_st (fun zw zk => XS.aload X13.here hx rfl (hb hby at_136) rfl rfl zk) ?_
  refine own_st (fun zw zk => XS.iconst X13.here hx rfl (hb hby at_138) zk) ?_
  refine own_st (fun zw zk => XS.lload X13.here hx rfl (hb hby at_139) rfl zk) ?_
  obtain ⟨T14, h14, X14, e14, W14, V14, st14⟩ := own_jst X13 hx hZ e13 Vb9_13 (j := (4 : Int32)) (4) (by decide) (by decide) (Nat.le_of_ble_eq_true rfl) (g := (mkF m 141 #[.val (.long q0), .second, .val (.long q1), .second, .val (.long q2), .second, .val (.long q3), .second, .val (.int p4), .val (.long v0), .second, .val (.long v1), .second, .val (.long v2), .second, .val (.long v3), .second, .val (.long v4), .second, .val (.long v5), .second, .val (.long v6), .second, .val (.long v7), .second, .val (.ref b9), .unset, .unset, .unset, .unset, .unset] [(.long v4), (.int (4 : Int32)), (.ref b9)])) rfl rfl (hb hby at_141)
  have Vb9_14 : own_L Z h14 b9 .long ([(.long v0), (.long v1), (.long v2), (.long v3), (.long v4), (.long (0 : Int64)), (.long (0 : Int64)), (.long (0 : Int64))]) := V14
  have N14 := Fr.snoc X14 N13 G9
  refine own_st (fun zw zk => st14 zw zk) ?_
  have Z14 : n0 ≤ h14.size := Nat.le_trans Z13 (Keep.of_wr W14).1
  refine own_st (fun zw zk => XS.aload X14.here hx rfl (hb hby at_142) rfl rfl zk) ?_
  refine own_st (fun zw zk => XS.iconst X14.here hx rfl (hb hby at_144) zk) ?_
  refine own_st (fun zw zk => XS.lload X14.here hx rfl (hb hby at_145) rfl zk) ?_
  obtain ⟨T15, h15, X15, e15, W15, V15, st15⟩ := own_jst X14 hx hZ e14 Vb9_14 (j := (5 : Int32)) (5) (by decide) (by decide) (Nat.le_of_ble_eq_true rfl) (g := (mkF m 147 #[.val (.long q0), .second, .val (.long q1), .second, .val (.long q2), .second, .val (.long q3), .second, .val (.int p4), .val (.long v0), .second, .val (.long v1), .second, .val (.long v2), .second, .val (.long v3), .second, .val (.long v4), .second, .val (.long v5), .second, .val (.long v6), .second, .val (.long v7), .second, .val (.ref b9), .unset, .unset, .unset, .unset, .unset] [(.long v5), (.int (5 : Int32)), (.ref b9)])) rfl rfl (hb hby at_147)
  have Vb9_15 : own_L Z h15 b9 .long ([(.long v0), (.long v1), (.long v2), (.long v3), (.long v4), (.long v5), (.long (0 : Int64)), (.long (0 : Int64))]) := V15
  have N15 := Fr.snoc X15 N14 G9
  refine own_st (fun zw zk => st15 zw zk) ?_
  have Z15 : n0 ≤ h15.size := Nat.le_trans Z14 (Keep.of_wr W15).1
  show own_Go p e below G (T15.setTop (mkF m 148 #[.val (.long q0), .second, .val (.long q1), .second, .val (.long q2), .second, .val (.long q3), .second, .val (.int p4), .val (.long v0), .second, .val (.long v1), .second, .val (.long v2), .second, .val (.long v3), .second, .val (.long v4), .second, .val (.long v5), .second, .val (.long v6), .second, .val (.long v7), .second, .val (.ref b9), .unset, .unset, .unset, .unset, .unset] []))
  refine own_st (fun zw zk => XS.aload X15.here hx rfl (hb hby at_148) rfl rfl zk) ?_
  refine own_st (fun zw zk => XS.bipush X15.here hx rfl (hb hby at_150) zk) ?_
  refine own_st (fun zw zk => XS.lload X15.here hx rfl (hb hby at_152) rfl zk) ?_
  obtain ⟨T16, h16, X16, e16, W16, V16, st16⟩ := own_jst X15 hx hZ e15 Vb9_15 (j := (6 : Int32)) (6) (by decide) (by decide) (Nat.le_of_ble_eq_true rfl) (g := (mkF m 154 #[.val (.long q0), .second, .val (.long q1), .second, .val (.long q2), .second, .val (.long q3), .second, .val (.int p4), .val (.long v0), .second, .val (.long v1), .second, .val (.long v2), .second, .val (.long v3), .second, .val (.long v4), .second, .val (.long v5), .second, .val (.long v6), .second, .val (.long v7), .second, .val (.ref b9), .unset, .unset, .unset, .unset, .unset] [(.long v6), (.int (6 : Int32)), (.ref b9)])) rfl rfl (hb hby at_154)
  have Vb9_16 : own_L Z h16 b9 .long ([(.long v0), (.long v1), (.long v2), (.long v3), (.long v4), (.long v5), (.long v6), (.long (0 : Int64))]) := V16
  have N16 := Fr.snoc X16 N15 G9
  refine own_st (fun zw zk => st16 zw zk) ?_
  have Z16 : n0 ≤ h16.size := Nat.le_trans Z15 (Keep.of_wr W16).1
  refine own_st (fun zw zk => XS.aload X16.here hx rfl (hb hby at_155) rfl rfl zk) ?_
  refine own_st (fun zw zk => XS.bipush X16.here hx rfl (hb hby at_157) zk) ?_
  refine own_st (fun zw zk => XS.lload X16.here hx rfl (hb hby at_159) rfl zk) ?_
  obtain ⟨T17, h17, X17, e17, W17, V17, st17⟩ := own_jst X16 hx hZ e16 Vb9_16 (j := (7 : Int32)) (7) (by decide) (by decide) (Nat.le_of_ble_eq_true rfl) (g := (mkF m 161 #[.val (.long q0), .second, .val (.long q1), .second, .val (.long q2), .second, .val (.long q3), .second, .val (.int p4), .val (.long v0), .second, .val (.long v1), .second, .val (.long v2), .second, .val (.long v3), .second, .val (.long v4), .second, .val (.long v5), .second, .val (.long v6), .second, .val (.long v7), .second, .val (.ref b9), .unset, .unset, .unset, .unset, .unset] [(.long v7), (.int (7 : Int32)), (.ref b9)])) rfl rfl (hb hby at_161)
  have Vb9_17 : own_L Z h17 b9 .long ([(.long v0), (.long v1), (.long v2), (.long v3), (.long v4), (.long v5), (.long v6), (.long v7)]) := V17
  have N17 := Fr.snoc X17 N16 G9
  refine own_st (fun zw zk => st17 zw zk) ?_
  have Z17 : n0 ≤ h17.size := Nat.le_trans Z16 (Keep.of_wr W17).1
  have J239_18 : ∀ (az : Int32) (ex : Int64) (hex : (v0 = 0 ∧ v1 = 0 ∧ v2 = 0 ∧ v3 = 0 ∧ v4 = 0 ∧ v5 = 0 ∧ v6 = 0 ∧ v7 = 0 ∧ ex = -1) ∨ (¬ (v0 = 0 ∧ v1 = 0 ∧ v2 = 0 ∧ v3 = 0 ∧ v4 = 0 ∧ v5 = 0 ∧ v6 = 0 ∧ v7 = 0) ∧ ex = 0)), own_Go p e below G (T17.setTop (mkF m 239 #[.val (.long q0), .second, .val (.long q1), .second, .val (.long q2), .second, .val (.long q3), .second, .val (.int p4), .val (.long v0), .second, .val (.long v1), .second, .val (.long v2), .second, .val (.long v3), .second, .val (.long v4), .second, .val (.long v5), .second, .val (.long v6), .second, .val (.long v7), .second, .val (.ref b9), .val (.int az), .val (.long ex), .second, .unset, .unset] [])) := by
    intro az ex hex
    show own_Go p e below G (T17.setTop (mkF m 239 #[.val (.long q0), .second, .val (.long q1), .second, .val (.long q2), .second, .val (.long q3), .second, .val (.int p4), .val (.long v0), .second, .val (.long v1), .second, .val (.long v2), .second, .val (.long v3), .second, .val (.long v4), .second, .val (.long v5), .second, .val (.long v6), .second, .val (.long v7), .second, .val (.ref b9), .val (.int az), .val (.long ex), .second, .unset, .unset] []))
    refine own_st (fun zw zk => XS.aload X17.here hx rfl (hb hby at_239) rfl rfl zk) ?_
    obtain ⟨_, _, ⟨T19, L19, k19, n19⟩, -, X19, ⟨Lc19, hQ19, l19, y19, z19⟩, st19⟩ := Jvm.LawKit.callS X17 hx (y := (⟨"com/example/attestrum/attestrum/schemes/ec/P256Field", "zeroMask", "([J)J"⟩ : MethodName)) hown (mvT hZ (hw _ (List.mem_of_getElem? (i := 6) rfl))) (mvT hZ (hw _ (List.mem_of_getElem? (i := 7) rfl))) (mvT hZ (hw _ (List.mem_of_getElem? (i := 8) rfl))) (mvT hZ (hw _ (List.mem_of_getElem? (i := 9) rfl))) (by decide) (backOf (W := 0) (rm2 l Z a0 hw [] b9 v0 v1 v2 v3 v4 v5 v6 v7 h17 n0 Z17 (Vb9_17)) hZ (hw _ (List.mem_of_getElem? (i := 9) rfl)) (hw _ (List.mem_of_getElem? (i := 8) rfl)) (by decide) (by decide)) (g := (mkF m 241 #[.val (.long q0), .second, .val (.long q1), .second, .val (.long q2), .second, .val (.long q3), .second, .val (.int p4), .val (.long v0), .second, .val (.long v1), .second, .val (.long v2), .second, .val (.long v3), .second, .val (.long v4), .second, .val (.long v5), .second, .val (.long v6), .second, .val (.long v7), .second, .val (.ref b9), .val (.int az), .val (.long ex), .second, .unset, .unset] [(.ref b9)])) rfl (by rw [hml]; rfl) (argsL := [(.ref b9)]) (rest := []) (lenOf pd_1 rfl) rfl (by show 2 * 0 + _ ≤ _; exact Nat.le_of_eq rfl) (hb hby at_241) (fun _ _ => ⟨rfl, e17, (by decide : 1 + 0 ≤ _), (by decide : 8 + 0 ≤ _)⟩)
    dsimp only [Pt.U, Pt.locs, Pt.cells, Pt.slots] at X19 l19 y19 z19 st19 hQ19
    subst l19 y19 z19
    obtain ⟨rfl, N19q, e19⟩ := hQ19
    have N19 := Fr.app N17 N19q
    refine own_st (fun zw zk => st19 zw zk) ?_
    refine own_st (fun zw zk => XS.lstore X19.here hx rfl (hb hby at_244) rfl rfl zk) ?_
    show own_Go p e below G (T19.setTop (mkF m 246 #[.val (.long q0), .second, .val (.long q1), .second, .val (.long q2), .second, .val (.long q3), .second, .val (.int p4), .val (.long v0), .second, .val (.long v1), .second, .val (.long v2), .second, .val (.long v3), .second, .val (.long v4), .second, .val (.long v5), .second, .val (.long v6), .second, .val (.long v7), .second, .val (.ref b9), .val (.int az), .val (.long ex), .second, .val (.long (own_zm v0 v1 v2 v3 v4 v5 v6 v7)), .second] []))
    refine own_st (fun zw zk => XS.lload X19.here hx rfl (hb hby at_246) rfl zk) ?_
    refine own_st (fun zw zk => XS.lload X19.here hx rfl (hb hby at_248) rfl zk) ?_
    refine own_st (fun zw zk => XS.lcmp X19.here hx rfl (hb hby at_250) rfl zk) ?_
    have hc251 : (own_zm v0 v1 v2 v3 v4 v5 v6 v7) = ex := own_law b0 b1 b2 b3 b4 b5 b6 b7 hex
    refine own_st (fun zw zk => XS.ifNo X19.here hx rfl (hb hby at_251) rfl ((if0 _ _).trans (teq (own_tle hc251)).2) zk) ?_
    refine own_st (fun zw zk => XS.iconst X19.here hx rfl (hb hby at_254) zk) ?_
    refine own_st (fun zw zk => XS.goto X19.here hx rfl (pc0 := 255) (pc' := 259) rfl (hb hby at_255) (by decide) (by decide) zk) ?_
    show own_Go p e below G (T19.setTop (mkF m 259 #[.val (.long q0), .second, .val (.long q1), .second, .val (.long q2), .second, .val (.long q3), .second, .val (.int p4), .val (.long v0), .second, .val (.long v1), .second, .val (.long v2), .second, .val (.long v3), .second, .val (.long v4), .second, .val (.long v5), .second, .val (.long v6), .second, .val (.long v7), .second, .val (.ref b9), .val (.int az), .val (.long ex), .second, .val (.long (own_zm v0 v1 v2 v3 v4 v5 v6 v7)), .second] [(.int (1 : Int32))]))
    subst hG
    obtain ⟨fs, hr, hrun, hended, hW, hsame⟩ := X19.leave (v := some (.int (1 : Int32))) (fun h => by rw [Bd.returns] at h; cases h)
    refine ⟨_, retN X19 hx (t := .boolean) Bd.returns (by simp) (hb hby at_259) hr, _, hrun, hended, _, _, rfl, ?_, ⟨_, rfl⟩, hW, hsame.mono (by decide) (by decide)⟩
    show Q0 Z q0 q1 q2 q3 p4 h0 n0 _ T19.heap _
    rw [e19]
    exact ⟨rfl, N19⟩
  show own_Go p e below G (T17.setTop (mkF m 162 #[.val (.long q0), .second, .val (.long q1), .second, .val (.long q2), .second, .val (.long q3), .second, .val (.int p4), .val (.long v0), .second, .val (.long v1), .second, .val (.long v2), .second, .val (.long v3), .second, .val (.long v4), .second, .val (.long v5), .second, .val (.long v6), .second, .val (.long v7), .second, .val (.ref b9), .unset, .unset, .unset, .unset, .unset] []))
  refine own_st (fun zw zk => XS.lload X17.here hx rfl (hb hby at_162) rfl zk) ?_
  refine own_st (fun zw zk => XS.lconst X17.here hx rfl (hb hby at_164) zk) ?_
  refine own_st (fun zw zk => XS.lcmp X17.here hx rfl (hb hby at_165) rfl zk) ?_
  by_cases hc166 : v0 = (0 : Int64)
  · refine own_st (fun zw zk => XS.ifNo X17.here hx rfl (hb hby at_166) rfl ((if0 _ _).trans (teq (own_tle hc166)).2) zk) ?_
    refine own_st (fun zw zk => XS.lload X17.here hx rfl (hb hby at_169) rfl zk) ?_
    refine own_st (fun zw zk => XS.lconst X17.here hx rfl (hb hby at_171) zk) ?_
    refine own_st (fun zw zk => XS.lcmp X17.here hx rfl (hb hby at_172) rfl zk) ?_
    by_cases hc173 : v1 = (0 : Int64)
    · refine own_st (fun zw zk => XS.ifNo X17.here hx rfl (hb hby at_173) rfl ((if0 _ _).trans (teq (own_tle hc173)).2) zk) ?_
      show own_Go p e below G (T17.setTop (mkF m 176 #[.val (.long q0), .second, .val (.long q1), .second, .val (.long q2), .second, .val (.long q3), .second, .val (.int p4), .val (.long v0), .second, .val (.long v1), .second, .val (.long v2), .second, .val (.long v3), .second, .val (.long v4), .second, .val (.long v5), .second, .val (.long v6), .second, .val (.long v7), .second, .val (.ref b9), .unset, .unset, .unset, .unset, .unset] []))
      refine own_st (fun zw zk => XS.lload X17.here hx rfl (hb hby at_176) rfl zk) ?_
      refine own_st (fun zw zk => XS.lconst X17.here hx rfl (hb hby at_178) zk) ?_
      refine own_st (fun zw zk => XS.lcmp X17.here hx rfl (hb hby at_179) rfl zk) ?_
      by_cases hc180 : v2 = (0 : Int64)
      · refine own_st (fun zw zk => XS.ifNo X17.here hx rfl (hb hby at_180) rfl ((if0 _ _).trans (teq (own_tle hc180)).2) zk) ?_
        refine own_st (fun zw zk => XS.lload X17.here hx rfl (hb hby at_183) rfl zk) ?_
        refine own_st (fun zw zk => XS.lconst X17.here hx rfl (hb hby at_185) zk) ?_
        refine own_st (fun zw zk => XS.lcmp X17.here hx rfl (hb hby at_186) rfl zk) ?_
        by_cases hc187 : v3 = (0 : Int64)
        · refine own_st (fun zw zk => XS.ifNo X17.here hx rfl (hb hby at_187) rfl ((if0 _ _).trans (teq (own_tle hc187)).2) zk) ?_
          show own_Go p e below G (T17.setTop (mkF m 190 #[.val (.long q0), .second, .val (.long q1), .second, .val (.long q2), .second, .val (.long q3), .second, .val (.int p4), .val (.long v0), .second, .val (.long v1), .second, .val (.long v2), .second, .val (.long v3), .second, .val (.long v4), .second, .val (.long v5), .second, .val (.long v6), .second, .val (.long v7), .second, .val (.ref b9), .unset, .unset, .unset, .unset, .unset] []))
          refine own_st (fun zw zk => XS.lload X17.here hx rfl (hb hby at_190) rfl zk) ?_
          refine own_st (fun zw zk => XS.lconst X17.here hx rfl (hb hby at_192) zk) ?_
          refine own_st (fun zw zk => XS.lcmp X17.here hx rfl (hb hby at_193) rfl zk) ?_
          by_cases hc194 : v4 = (0 : Int64)
          · refine own_st (fun zw zk => XS.ifNo X17.here hx rfl (hb hby at_194) rfl ((if0 _ _).trans (teq (own_tle hc194)).2) zk) ?_
            refine own_st (fun zw zk => XS.lload X17.here hx rfl (hb hby at_197) rfl zk) ?_
            refine own_st (fun zw zk => XS.lconst X17.here hx rfl (hb hby at_199) zk) ?_
            refine own_st (fun zw zk => XS.lcmp X17.here hx rfl (hb hby at_200) rfl zk) ?_
            by_cases hc201 : v5 = (0 : Int64)
            · refine own_st (fun zw zk => XS.ifNo X17.here hx rfl (hb hby at_201) rfl ((if0 _ _).trans (teq (own_tle hc201)).2) zk) ?_
              show own_Go p e below G (T17.setTop (mkF m 204 #[.val (.long q0), .second, .val (.long q1), .second, .val (.long q2), .second, .val (.long q3), .second, .val (.int p4), .val (.long v0), .second, .val (.long v1), .second, .val (.long v2), .second, .val (.long v3), .second, .val (.long v4), .second, .val (.long v5), .second, .val (.long v6), .second, .val (.long v7), .second, .val (.ref b9), .unset, .unset, .unset, .unset, .unset] []))
              refine own_st (fun zw zk => XS.lload X17.here hx rfl (hb hby at_204) rfl zk) ?_
              refine own_st (fun zw zk => XS.lconst X17.here hx rfl (hb hby at_206) zk) ?_
              refine own_st (fun zw zk => XS.lcmp X17.here hx rfl (hb hby at_207) rfl zk) ?_
              by_cases hc208 : v6 = (0 : Int64)
              · refine own_st (fun zw zk => XS.ifNo X17.here hx rfl (hb hby at_208) rfl ((if0 _ _).trans (teq (own_tle hc208)).2) zk) ?_
                refine own_st (fun zw zk => XS.lload X17.here hx rfl (hb hby at_211) rfl zk) ?_
                refine own_st (fun zw zk => XS.lconst X17.here hx rfl (hb hby at_213) zk) ?_
                refine own_st (fun zw zk => XS.lcmp X17.here hx rfl (hb hby at_214) rfl zk) ?_
                by_cases hc215 : v7 = (0 : Int64)
                · refine own_st (fun zw zk => XS.ifNo X17.here hx rfl (hb hby at_215) rfl ((if0 _ _).trans (teq (own_tle hc215)).2) zk) ?_
                  show own_Go p e below G (T17.setTop (mkF m 218 #[.val (.long q0), .second, .val (.long q1), .second, .val (.long q2), .second, .val (.long q3), .second, .val (.int p4), .val (.long v0), .second, .val (.long v1), .second, .val (.long v2), .second, .val (.long v3), .second, .val (.long v4), .second, .val (.long v5), .second, .val (.long v6), .second, .val (.long v7), .second, .val (.ref b9), .unset, .unset, .unset, .unset, .unset] []))
                  refine own_st (fun zw zk => XS.iconst X17.here hx rfl (hb hby at_218) zk) ?_
                  refine own_st (fun zw zk => XS.goto X17.here hx rfl (pc0 := 219) (pc' := 223) rfl (hb hby at_219) (by decide) (by decide) zk) ?_
                  show own_Go p e below G (T17.setTop (mkF m 223 #[.val (.long q0), .second, .val (.long q1), .second, .val (.long q2), .second, .val (.long q3), .second, .val (.int p4), .val (.long v0), .second, .val (.long v1), .second, .val (.long v2), .second, .val (.long v3), .second, .val (.long v4), .second, .val (.long v5), .second, .val (.long v6), .second, .val (.long v7), .second, .val (.ref b9), .unset, .unset, .unset, .unset, .unset] [(.int (1 : Int32))]))
                  refine own_st (fun zw zk => XS.istore X17.here hx rfl (hb hby at_223) rfl rfl zk) ?_
                  show own_Go p e below G (T17.setTop (mkF m 225 #[.val (.long q0), .second, .val (.long q1), .second, .val (.long q2), .second, .val (.long q3), .second, .val (.int p4), .val (.long v0), .second, .val (.long v1), .second, .val (.long v2), .second, .val (.long v3), .second, .val (.long v4), .second, .val (.long v5), .second, .val (.long v6), .second, .val (.long v7), .second, .val (.ref b9), .val (.int (1 : Int32)), .unset, .unset, .unset, .unset] []))
                  refine own_st (fun zw zk => XS.iload X17.here hx rfl (hb hby at_225) rfl zk) ?_
                  refine own_st (fun zw zk => XS.ifNo X17.here hx rfl (hb hby at_227) rfl ((if0 _ _).trans (feq (by decide : ¬ ((1 : Int32) = (0 : Int32)))).1) zk) ?_
                  refine own_st (fun zw zk => X17.ldc2Long hx hown (mvT hZ (hw _ (List.mem_of_getElem? (i := 10) rfl))) (g := (mkF m 230 #[.val (.long q0), .second, .val (.long q1), .second, .val (.long q2), .second, .val (.long q3), .second, .val (.int p4), .val (.long v0), .second, .val (.long v1), .second, .val (.long v2), .second, .val (.long v3), .second, .val (.long v4), .second, .val (.long v5), .second, .val (.long v6), .second, .val (.long v7), .second, .val (.ref b9), .val (.int (1 : Int32)), .unset, .unset, .unset, .unset] [])) rfl (hb hby at_230) _ zk) ?_
                  refine own_st (fun zw zk => XS.goto X17.here hx rfl (pc0 := 233) (pc' := 237) rfl (hb hby at_233) (by decide) (by decide) zk) ?_
                  show own_Go p e below G (T17.setTop (mkF m 237 #[.val (.long q0), .second, .val (.long q1), .second, .val (.long q2), .second, .val (.long q3), .second, .val (.int p4), .val (.long v0), .second, .val (.long v1), .second, .val (.long v2), .second, .val (.long v3), .second, .val (.long v4), .second, .val (.long v5), .second, .val (.long v6), .second, .val (.long v7), .second, .val (.ref b9), .val (.int (1 : Int32)), .unset, .unset, .unset, .unset] [(.long (-1 : Int64))]))
                  refine own_st (fun zw zk => XS.lstore X17.here hx rfl (hb hby at_237) rfl rfl zk) ?_
                  show own_Go p e below G (T17.setTop (mkF m 239 #[.val (.long q0), .second, .val (.long q1), .second, .val (.long q2), .second, .val (.long q3), .second, .val (.int p4), .val (.long v0), .second, .val (.long v1), .second, .val (.long v2), .second, .val (.long v3), .second, .val (.long v4), .second, .val (.long v5), .second, .val (.long v6), .second, .val (.long v7), .second, .val (.ref b9), .val (.int (1 : Int32)), .val (.long (-1 : Int64)), .second, .unset, .unset] []))
                  exact J239_18 (1 : Int32) (-1 : Int64) (Or.inl ⟨hc166, hc173, hc180, hc187, hc194, hc201, hc208, hc215, rfl⟩)
                · refine own_st (fun zw zk => XS.ifYes X17.here hx rfl (pc0 := 215) (pc' := 222) rfl (hb hby at_215) rfl ((if0 _ _).trans (feq (own_fle hc215)).2) (by decide) (by decide) zk) ?_
                  show own_Go p e below G (T17.setTop (mkF m 222 #[.val (.long q0), .second, .val (.long q1), .second, .val (.long q2), .second, .val (.long q3), .second, .val (.int p4), .val (.long v0), .second, .val (.long v1), .second, .val (.long v2), .second, .val (.long v3), .second, .val (.long v4), .second, .val (.long v5), .second, .val (.long v6), .second, .val (.long v7), .second, .val (.ref b9), .unset, .unset, .unset, .unset, .unset] []))
                  refine own_st (fun zw zk => XS.iconst X17.here hx rfl (hb hby at_222) zk) ?_
                  refine own_st (fun zw zk => XS.istore X17.here hx rfl (hb hby at_223) rfl rfl zk) ?_
                  show own_Go p e below G (T17.setTop (mkF m 225 #[.val (.long q0), .second, .val (.long q1), .second, .val (.long q2), .second, .val (.long q3), .second, .val (.int p4), .val (.long v0), .second, .val (.long v1), .second, .val (.long v2), .second, .val (.long v3), .second, .val (.long v4), .second, .val (.long v5), .second, .val (.long v6), .second, .val (.long v7), .second, .val (.ref b9), .val (.int (0 : Int32)), .unset, .unset, .unset, .unset] []))
                  refine own_st (fun zw zk => XS.iload X17.here hx rfl (hb hby at_225) rfl zk) ?_
                  refine own_st (fun zw zk => XS.ifYes X17.here hx rfl (pc0 := 227) (pc' := 236) rfl (hb hby at_227) rfl ((if0 _ _).trans (teq (by decide : (0 : Int32) = (0 : Int32))).1) (by decide) (by decide) zk) ?_
                  refine own_st (fun zw zk => XS.lconst X17.here hx rfl (hb hby at_236) zk) ?_
                  refine own_st (fun zw zk => XS.lstore X17.here hx rfl (hb hby at_237) rfl rfl zk) ?_
                  show own_Go p e below G (T17.setTop (mkF m 239 #[.val (.long q0), .second, .val (.long q1), .second, .val (.long q2), .second, .val (.long q3), .second, .val (.int p4), .val (.long v0), .second, .val (.long v1), .second, .val (.long v2), .second, .val (.long v3), .second, .val (.long v4), .second, .val (.long v5), .second, .val (.long v6), .second, .val (.long v7), .second, .val (.ref b9), .val (.int (0 : Int32)), .val (.long (0 : Int64)), .second, .unset, .unset] []))
                  exact J239_18 (0 : Int32) (0 : Int64) (Or.inr ⟨fun q => hc215 q.2.2.2.2.2.2.2, rfl⟩)
              · refine own_st (fun zw zk => XS.ifYes X17.here hx rfl (pc0 := 208) (pc' := 222) rfl (hb hby at_208) rfl ((if0 _ _).trans (feq (own_fle hc208)).2) (by decide) (by decide) zk) ?_
                refine own_st (fun zw zk => XS.iconst X17.here hx rfl (hb hby at_222) zk) ?_
                refine own_st (fun zw zk => XS.istore X17.here hx rfl (hb hby at_223) rfl rfl zk) ?_
                show own_Go p e below G (T17.setTop (mkF m 225 #[.val (.long q0), .second, .val (.long q1), .second, .val (.long q2), .second, .val (.long q3), .second, .val (.int p4), .val (.long v0), .second, .val (.long v1), .second, .val (.long v2), .second, .val (.long v3), .second, .val (.long v4), .second, .val (.long v5), .second, .val (.long v6), .second, .val (.long v7), .second, .val (.ref b9), .val (.int (0 : Int32)), .unset, .unset, .unset, .unset] []))
                refine own_st (fun zw zk => XS.iload X17.here hx rfl (hb hby at_225) rfl zk) ?_
                refine own_st (fun zw zk => XS.ifYes X17.here hx rfl (pc0 := 227) (pc' := 236) rfl (hb hby at_227) rfl ((if0 _ _).trans (teq (by decide : (0 : Int32) = (0 : Int32))).1) (by decide) (by decide) zk) ?_
                refine own_st (fun zw zk => XS.lconst X17.here hx rfl (hb hby at_236) zk) ?_
                refine own_st (fun zw zk => XS.lstore X17.here hx rfl (hb hby at_237) rfl rfl zk) ?_
                show own_Go p e below G (T17.setTop (mkF m 239 #[.val (.long q0), .second, .val (.long q1), .second, .val (.long q2), .second, .val (.long q3), .second, .val (.int p4), .val (.long v0), .second, .val (.long v1), .second, .val (.long v2), .second, .val (.long v3), .second, .val (.long v4), .second, .val (.long v5), .second, .val (.long v6), .second, .val (.long v7), .second, .val (.ref b9), .val (.int (0 : Int32)), .val (.long (0 : Int64)), .second, .unset, .unset] []))
                exact J239_18 (0 : Int32) (0 : Int64) (Or.inr ⟨fun q => hc208 q.2.2.2.2.2.2.1, rfl⟩)
            · refine own_st (fun zw zk => XS.ifYes X17.here hx rfl (pc0 := 201) (pc' := 222) rfl (hb hby at_201) rfl ((if0 _ _).trans (feq (own_fle hc201)).2) (by decide) (by decide) zk) ?_
              show own_Go p e below G (T17.setTop (mkF m 222 #[.val (.long q0), .second, .val (.long q1), .second, .val (.long q2), .second, .val (.long q3), .second, .val (.int p4), .val (.long v0), .second, .val (.long v1), .second, .val (.long v2), .second, .val (.long v3), .second, .val (.long v4), .second, .val (.long v5), .second, .val (.long v6), .second, .val (.long v7), .second, .val (.ref b9), .unset, .unset, .unset, .unset, .unset] []))
              refine own_st (fun zw zk => XS.iconst X17.here hx rfl (hb hby at_222) zk) ?_
              refine own_st (fun zw zk => XS.istore X17.here hx rfl (hb hby at_223) rfl rfl zk) ?_
              show own_Go p e below G (T17.setTop (mkF m 225 #[.val (.long q0), .second, .val (.long q1), .second, .val (.long q2), .second, .val (.long q3), .second, .val (.int p4), .val (.long v0), .second, .val (.long v1), .second, .val (.long v2), .second, .val (.long v3), .second, .val (.long v4), .second, .val (.long v5), .second, .val (.long v6), .second, .val (.long v7), .second, .val (.ref b9), .val (.int (0 : Int32)), .unset, .unset, .unset, .unset] []))
              refine own_st (fun zw zk => XS.iload X17.here hx rfl (hb hby at_225) rfl zk) ?_
              refine own_st (fun zw zk => XS.ifYes X17.here hx rfl (pc0 := 227) (pc' := 236) rfl (hb hby at_227) rfl ((if0 _ _).trans (teq (by decide : (0 : Int32) = (0 : Int32))).1) (by decide) (by decide) zk) ?_
              refine own_st (fun zw zk => XS.lconst X17.here hx rfl (hb hby at_236) zk) ?_
              refine own_st (fun zw zk => XS.lstore X17.here hx rfl (hb hby at_237) rfl rfl zk) ?_
              show own_Go p e below G (T17.setTop (mkF m 239 #[.val (.long q0), .second, .val (.long q1), .second, .val (.long q2), .second, .val (.long q3), .second, .val (.int p4), .val (.long v0), .second, .val (.long v1), .second, .val (.long v2), .second, .val (.long v3), .second, .val (.long v4), .second, .val (.long v5), .second, .val (.long v6), .second, .val (.long v7), .second, .val (.ref b9), .val (.int (0 : Int32)), .val (.long (0 : Int64)), .second, .unset, .unset] []))
              exact J239_18 (0 : Int32) (0 : Int64) (Or.inr ⟨fun q => hc201 q.2.2.2.2.2.1, rfl⟩)
          · refine own_st (fun zw zk => XS.ifYes X17.here hx rfl (pc0 := 194) (pc' := 222) rfl (hb hby at_194) rfl ((if0 _ _).trans (feq (own_fle hc194)).2) (by decide) (by decide) zk) ?_
            refine own_st (fun zw zk => XS.iconst X17.here hx rfl (hb hby at_222) zk) ?_
            refine own_st (fun zw zk => XS.istore X17.here hx rfl (hb hby at_223) rfl rfl zk) ?_
            show own_Go p e below G (T17.setTop (mkF m 225 #[.val (.long q0), .second, .val (.long q1), .second, .val (.long q2), .second, .val (.long q3), .second, .val (.int p4), .val (.long v0), .second, .val (.long v1), .second, .val (.long v2), .second, .val (.long v3), .second, .val (.long v4), .second, .val (.long v5), .second, .val (.long v6), .second, .val (.long v7), .second, .val (.ref b9), .val (.int (0 : Int32)), .unset, .unset, .unset, .unset] []))
            refine own_st (fun zw zk => XS.iload X17.here hx rfl (hb hby at_225) rfl zk) ?_
            refine own_st (fun zw zk => XS.ifYes X17.here hx rfl (pc0 := 227) (pc' := 236) rfl (hb hby at_227) rfl ((if0 _ _).trans (teq (by decide : (0 : Int32) = (0 : Int32))).1) (by decide) (by decide) zk) ?_
            refine own_st (fun zw zk => XS.lconst X17.here hx rfl (hb hby at_236) zk) ?_
            refine own_st (fun zw zk => XS.lstore X17.here hx rfl (hb hby at_237) rfl rfl zk) ?_
            show own_Go p e below G (T17.setTop (mkF m 239 #[.val (.long q0), .second, .val (.long q1), .second, .val (.long q2), .second, .val (.long q3), .second, .val (.int p4), .val (.long v0), .second, .val (.long v1), .second, .val (.long v2), .second, .val (.long v3), .second, .val (.long v4), .second, .val (.long v5), .second, .val (.long v6), .second, .val (.long v7), .second, .val (.ref b9), .val (.int (0 : Int32)), .val (.long (0 : Int64)), .second, .unset, .unset] []))
            exact J239_18 (0 : Int32) (0 : Int64) (Or.inr ⟨fun q => hc194 q.2.2.2.2.1, rfl⟩)
        · refine own_st (fun zw zk => XS.ifYes X17.here hx rfl (pc0 := 187) (pc' := 222) rfl (hb hby at_187) rfl ((if0 _ _).trans (feq (own_fle hc187)).2) (by decide) (by decide) zk) ?_
          show own_Go p e below G (T17.setTop (mkF m 222 #[.val (.long q0), .second, .val (.long q1), .second, .val (.long q2), .second, .val (.long q3), .second, .val (.int p4), .val (.long v0), .second, .val (.long v1), .second, .val (.long v2), .second, .val (.long v3), .second, .val (.long v4), .second, .val (.long v5), .second, .val (.long v6), .second, .val (.long v7), .second, .val (.ref b9), .unset, .unset, .unset, .unset, .unset] []))
          refine own_st (fun zw zk => XS.iconst X17.here hx rfl (hb hby at_222) zk) ?_
          refine own_st (fun zw zk => XS.istore X17.here hx rfl (hb hby at_223) rfl rfl zk) ?_
          show own_Go p e below G (T17.setTop (mkF m 225 #[.val (.long q0), .second, .val (.long q1), .second, .val (.long q2), .second, .val (.long q3), .second, .val (.int p4), .val (.long v0), .second, .val (.long v1), .second, .val (.long v2), .second, .val (.long v3), .second, .val (.long v4), .second, .val (.long v5), .second, .val (.long v6), .second, .val (.long v7), .second, .val (.ref b9), .val (.int (0 : Int32)), .unset, .unset, .unset, .unset] []))
          refine own_st (fun zw zk => XS.iload X17.here hx rfl (hb hby at_225) rfl zk) ?_
          refine own_st (fun zw zk => XS.ifYes X17.here hx rfl (pc0 := 227) (pc' := 236) rfl (hb hby at_227) rfl ((if0 _ _).trans (teq (by decide : (0 : Int32) = (0 : Int32))).1) (by decide) (by decide) zk) ?_
          refine own_st (fun zw zk => XS.lconst X17.here hx rfl (hb hby at_236) zk) ?_
          refine own_st (fun zw zk => XS.lstore X17.here hx rfl (hb hby at_237) rfl rfl zk) ?_
          show own_Go p e below G (T17.setTop (mkF m 239 #[.val (.long q0), .second, .val (.long q1), .second, .val (.long q2), .second, .val (.long q3), .second, .val (.int p4), .val (.long v0), .second, .val (.long v1), .second, .val (.long v2), .second, .val (.long v3), .second, .val (.long v4), .second, .val (.long v5), .second, .val (.long v6), .second, .val (.long v7), .second, .val (.ref b9), .val (.int (0 : Int32)), .val (.long (0 : Int64)), .second, .unset, .unset] []))
          exact J239_18 (0 : Int32) (0 : Int64) (Or.inr ⟨fun q => hc187 q.2.2.2.1, rfl⟩)
      · refine own_st (fun zw zk => XS.ifYes X17.here hx rfl (pc0 := 180) (pc' := 222) rfl (hb hby at_180) rfl ((if0 _ _).trans (feq (own_fle hc180)).2) (by decide) (by decide) zk) ?_
        refine own_st (fun zw zk => XS.iconst X17.here hx rfl (hb hby at_222) zk) ?_
        refine own_st (fun zw zk => XS.istore X17.here hx rfl (hb hby at_223) rfl rfl zk) ?_
        show own_Go p e below G (T17.setTop (mkF m 225 #[.val (.long q0), .second, .val (.long q1), .second, .val (.long q2), .second, .val (.long q3), .second, .val (.int p4), .val (.long v0), .second, .val (.long v1), .second, .val (.long v2), .second, .val (.long v3), .second, .val (.long v4), .second, .val (.long v5), .second, .val (.long v6), .second, .val (.long v7), .second, .val (.ref b9), .val (.int (0 : Int32)), .unset, .unset, .unset, .unset] []))
        refine own_st (fun zw zk => XS.iload X17.here hx rfl (hb hby at_225) rfl zk) ?_
        refine own_st (fun zw zk => XS.ifYes X17.here hx rfl (pc0 := 227) (pc' := 236) rfl (hb hby at_227) rfl ((if0 _ _).trans (teq (by decide : (0 : Int32) = (0 : Int32))).1) (by decide) (by decide) zk) ?_
        refine own_st (fun zw zk => XS.lconst X17.here hx rfl (hb hby at_236) zk) ?_
        refine own_st (fun zw zk => XS.lstore X17.here hx rfl (hb hby at_237) rfl rfl zk) ?_
        show own_Go p e below G (T17.setTop (mkF m 239 #[.val (.long q0), .second, .val (.long q1), .second, .val (.long q2), .second, .val (.long q3), .second, .val (.int p4), .val (.long v0), .second, .val (.long v1), .second, .val (.long v2), .second, .val (.long v3), .second, .val (.long v4), .second, .val (.long v5), .second, .val (.long v6), .second, .val (.long v7), .second, .val (.ref b9), .val (.int (0 : Int32)), .val (.long (0 : Int64)), .second, .unset, .unset] []))
        exact J239_18 (0 : Int32) (0 : Int64) (Or.inr ⟨fun q => hc180 q.2.2.1, rfl⟩)
    · refine own_st (fun zw zk => XS.ifYes X17.here hx rfl (pc0 := 173) (pc' := 222) rfl (hb hby at_173) rfl ((if0 _ _).trans (feq (own_fle hc173)).2) (by decide) (by decide) zk) ?_
      show own_Go p e below G (T17.setTop (mkF m 222 #[.val (.long q0), .second, .val (.long q1), .second, .val (.long q2), .second, .val (.long q3), .second, .val (.int p4), .val (.long v0), .second, .val (.long v1), .second, .val (.long v2), .second, .val (.long v3), .second, .val (.long v4), .second, .val (.long v5), .second, .val (.long v6), .second, .val (.long v7), .second, .val (.ref b9), .unset, .unset, .unset, .unset, .unset] []))
      refine own_st (fun zw zk => XS.iconst X17.here hx rfl (hb hby at_222) zk) ?_
      refine own_st (fun zw zk => XS.istore X17.here hx rfl (hb hby at_223) rfl rfl zk) ?_
      show own_Go p e below G (T17.setTop (mkF m 225 #[.val (.long q0), .second, .val (.long q1), .second, .val (.long q2), .second, .val (.long q3), .second, .val (.int p4), .val (.long v0), .second, .val (.long v1), .second, .val (.long v2), .second, .val (.long v3), .second, .val (.long v4), .second, .val (.long v5), .second, .val (.long v6), .second, .val (.long v7), .second, .val (.ref b9), .val (.int (0 : Int32)), .unset, .unset, .unset, .unset] []))
      refine own_st (fun zw zk => XS.iload X17.here hx rfl (hb hby at_225) rfl zk) ?_
      refine own_st (fun zw zk => XS.ifYes X17.here hx rfl (pc0 := 227) (pc' := 236) rfl (hb hby at_227) rfl ((if0 _ _).trans (teq (by decide : (0 : Int32) = (0 : Int32))).1) (by decide) (by decide) zk) ?_
      refine own_st (fun zw zk => XS.lconst X17.here hx rfl (hb hby at_236) zk) ?_
      refine own_st (fun zw zk => XS.lstore X17.here hx rfl (hb hby at_237) rfl rfl zk) ?_
      show own_Go p e below G (T17.setTop (mkF m 239 #[.val (.long q0), .second, .val (.long q1), .second, .val (.long q2), .second, .val (.long q3), .second, .val (.int p4), .val (.long v0), .second, .val (.long v1), .second, .val (.long v2), .second, .val (.long v3), .second, .val (.long v4), .second, .val (.long v5), .second, .val (.long v6), .second, .val (.long v7), .second, .val (.ref b9), .val (.int (0 : Int32)), .val (.long (0 : Int64)), .second, .unset, .unset] []))
      exact J239_18 (0 : Int32) (0 : Int64) (Or.inr ⟨fun q => hc173 q.2.1, rfl⟩)
  · refine own_st (fun zw zk => XS.ifYes X17.here hx rfl (pc0 := 166) (pc' := 222) rfl (hb hby at_166) rfl ((if0 _ _).trans (feq (own_fle hc166)).2) (by decide) (by decide) zk) ?_
    refine own_st (fun zw zk => XS.iconst X17.here hx rfl (hb hby at_222) zk) ?_
    refine own_st (fun zw zk => XS.istore X17.here hx rfl (hb hby at_223) rfl rfl zk) ?_
    show own_Go p e below G (T17.setTop (mkF m 225 #[.val (.long q0), .second, .val (.long q1), .second, .val (.long q2), .second, .val (.long q3), .second, .val (.int p4), .val (.long v0), .second, .val (.long v1), .second, .val (.long v2), .second, .val (.long v3), .second, .val (.long v4), .second, .val (.long v5), .second, .val (.long v6), .second, .val (.long v7), .second, .val (.ref b9), .val (.int (0 : Int32)), .unset, .unset, .unset, .unset] []))
    refine own_st (fun zw zk => XS.iload X17.here hx rfl (hb hby at_225) rfl zk) ?_
    refine own_st (fun zw zk => XS.ifYes X17.here hx rfl (pc0 := 227) (pc' := 236) rfl (hb hby at_227) rfl ((if0 _ _).trans (teq (by decide : (0 : Int32) = (0 : Int32))).1) (by decide) (by decide) zk) ?_
    refine own_st (fun zw zk => XS.lconst X17.here hx rfl (hb hby at_236) zk) ?_
    refine own_st (fun zw zk => XS.lstore X17.here hx rfl (hb hby at_237) rfl rfl zk) ?_
    show own_Go p e below G (T17.setTop (mkF m 239 #[.val (.long q0), .second, .val (.long q1), .second, .val (.long q2), .second, .val (.long q3), .second, .val (.int p4), .val (.long v0), .second, .val (.long v1), .second, .val (.long v2), .second, .val (.long v3), .second, .val (.long v4), .second, .val (.long v5), .second, .val (.long v6), .second, .val (.long v7), .second, .val (.ref b9), .val (.int (0 : Int32)), .val (.long (0 : Int64)), .second, .unset, .unset] []))
    exact J239_18 (0 : Int32) (0 : Int64) (Or.inr ⟨fun q => hc166 q.1, rfl⟩)
set_option maxRecDepth 65536 in
set_option maxHeartbeats 40000000 in
theorem comes_1 {Post : Tables → Env → Array Value → State → Outcome → State → Prop} (hpost : ∀ tb e args s v u, (limb_1_1.after args s (.returned v) u = true ∧ limb_1_2.after args s (.returned v) u = true ∧ True) → FrameEnd s (.returned v) u (Jvm.fieldLocs frame_1_writes args s ++ Jvm.arrayLocs frame_1_arrays args s ++ Jvm.staticLocs frame_1_statics s) 16 128 → Post tb e args s (.returned v) u) :
    ArmFor flags0 classFile x code maxLocals ret World_1 tables_1 room_1 Calls_1 rest_1 Pre_1 Post := by
  intro l hfl _ _ p e ha hc hk s m args below hf hA hF happ hP
  obtain ⟨hcalls, hrest, hpre⟩ := hP
  obtain ⟨-, -, -, hnamed, -, -, -, hat⟩ := (Spec.applies_iff hf).mp happ
  obtain ⟨hg, hn⟩ := and_e (Cond.before_iff.mp (show (Jvm.Cond.and given_1 narrow_1).before args s = true from hpre))
  obtain ⟨g1, g2⟩ := and_e hg
  obtain ⟨g3, g4⟩ := and_e g2
  obtain ⟨g5, g6⟩ := and_e g4
  obtain ⟨g7, g8⟩ := and_e g6
  obtain ⟨g9, g10⟩ := and_e g8
  obtain ⟨w0, w1, w2, w3, w4, rfl⟩ : ∃ w0 w1 w2 w3 w4 : Value, args = #[w0, w1, w2, w3, w4] := by
    have hs : args.size = 5 := by simpa [Cond.value, given_1] using g1
    obtain ⟨L⟩ := args
    match L, hs with
    | [w0, w1, w2, w3, w4], _ => exact ⟨w0, w1, w2, w3, w4, rfl⟩
  have hw := fun d (hd : d ∈ tables_1) => atoms_spec (ws := Jvm.Cond.code x code maxLocals ret :: tables_1) hat d (List.mem_cons_of_mem _ hd)
  obtain ⟨i0, ei0⟩ := isL_v g3
  obtain rfl : w0 = (.long i0) := Option.some.inj ei0
  obtain ⟨i1, ei1⟩ := isL_v g5
  obtain rfl : w1 = (.long i1) := Option.some.inj ei1
  obtain ⟨i2, ei2⟩ := isL_v g7
  obtain rfl : w2 = (.long i2) := Option.some.inj ei2
  obtain ⟨i3, ei3⟩ := isL_v g9
  obtain rfl : w3 = (.long i3) := Option.some.inj ei3
  obtain ⟨i4, ei4⟩ := is_v g10
  obtain rfl : w4 = (.int i4) := Option.some.inj ei4
  obtain ⟨n, o, h1, h2, h3, _, L, rfl, ⟨rfl, N⟩, hq⟩ := rm0 l s _ hw tables_1 i0 i1 i2 i3 i4 s.heap s.heap.size (Nat.le_refl _) p e ha hc hk s m _ below hf ((Spec.applies_iff_loose hf).mp happ).1 ⟨rfl, State.Warmed39.refl s, rfl⟩ trivial
  refine ⟨n, _, h1, h2, h3, hpost _ _ _ _ _ _ ⟨Cond.after_iff.mpr rfl, Cond.after_iff.mpr (eq_i res_at (Term.int_eval (1)) rfl), trivial⟩ ⟨hq.1, hq.2.1, (hq.2.2.sift fun y hy => Or.inr (N y hy)).mono (by decide) (by decide)⟩⟩
theorem main_1_1 : Claimed_1_1 := comes_1 fun _ _ _ _ _ _ h hF => ⟨h.1, hF⟩
theorem main_1_2 : Claimed_1_2 := comes_1 fun _ _ _ _ _ _ h hF => ⟨h.2.1, hF⟩
end Jvm.Pilot.@@N@@
namespace Jvm.Pilot.@@N@@
open Jvm Jvm.ClassFile Sem Op Lib Jvm.Free Jvm.Stand Jvm.Pilot.@@N@@.Jvm.D
/-! MADE BY PROGRAM (witnessworld.py) out of the Statement's table words and the real class files: 11 classes; the members and pool entries that the words name. The judged class is class 1, her method 2. -/
namespace start1
open Jvm.ClassFile
def u (s : String) : CpInfo := .utf8 (stringToUtf16 s)
/-- a pool by its gaps: so many unusable entries, then the entry; so many at the end -/
def gap : Nat → List CpInfo → List CpInfo
  | 0, r => r
  | n + 1, r => .unusable :: gap n r
def poolList (es : List (Nat × CpInfo)) (last : Nat) : List CpInfo := es.foldr (fun e r => gap e.1 (e.2 :: r)) (gap last [])
def pool (es : List (Nat × CpInfo)) (last : Nat) : Array CpInfo := ⟨poolList es last⟩
def fileOf (pool : Array CpInfo) (this : Nat) (attrs : Array Attribute := #[]) (ms : Array MethodInfo := #[]) (fl : Nat := 33) (sup : Nat := 0) (ifs : Array Nat := #[]) (fds : Array FieldInfo := #[]) : ClassFile where
  minorVersion := 0
  majorVersion := 65
  constantPool := pool
  accessFlags := fl
  thisClass := this
  superClass := sup
  interfaces := ifs
  fields := fds
  methods := ms
  attributes := attrs
def plain (name : String) (sup : Option ClassId) : Class where
  name := name
  kind := .ordinary
  loader := none
  accessFlags := 33
  super := sup
  interfaces := #[]
  cf := none
  fields := #[]
  methods := #[]
  instanceTypes := #[]
  staticTypes := #[]
  resolved := #[]
  callSites := []
  init := .initialized
  statics := none
  mirror := none

def pool0 : Array CpInfo := pool [(5, u "<init>"), (0, u "()V"), (1, .class_ 10), (1, u "java/lang/Object")] 113

def k0m0 : Method := { name := "<init>", desc := "()V", sig := { parameters := [], returnType := none }, accessFlags := 1, code := none }
/-- java/lang/Object -/
def k0 : Class := { plain "java/lang/Object" none with
  accessFlags := 33
  interfaces := #[]
  cf := some (fileOf pool0 8 #[] #[{ accessFlags := 1, nameIndex := 5, descriptorIndex := 6, attributes := #[] }] 33 0 #[] #[])
  fields := #[]
  methods := #[k0m0]
  instanceTypes := #[]
  staticTypes := #[]
  resolved := Array.replicate 124 none
  statics := none }

def pool1 : Array CpInfo := pool [(2, .class_ 4), (1, u "java/lang/Object"), (0, u "<init>"), (0, u "()V"), (0, .long 4294967295), (1, .methodref 10 11), (0, .class_ 12), (0, .nameAndType 13 14), (0, u "com/example/attestrum/attestrum/schemes/ec/P256FieldZeroMaskPinLaw"), (0, u "pick"), (0, u "(JII)J"), (0, .long 18446744073709551615), (1, .methodref 18 19), (0, .class_ 20), (0, .nameAndType 21 22), (0, u "com/example/attestrum/attestrum/schemes/ec/P256Field"), (0, u "zeroMask"), (0, u "([J)J"), (3, u "law"), (0, u "(JJJJI)Z")] 4

def k1m0 : Method := { name := "<init>", desc := "()V", sig := { parameters := [], returnType := none }, accessFlags := 2, code := none }
def k1c1 : Code := { maxStack := 2, maxLocals := 4, code := method_2_code, exceptionTable := #[], attributes := #[] }
def k1m1 : Method := { name := "pick", desc := "(JII)J", sig := { parameters := [.long, .int, .int], returnType := some .long }, accessFlags := 10, code := some k1c1 }
def k1c2 : Code := { maxStack := 4, maxLocals := 31, code := code, exceptionTable := #[], attributes := #[] }
def k1m2 : Method := { name := "law", desc := "(JJJJI)Z", sig := { parameters := [.long, .long, .long, .long, .int], returnType := some .boolean }, accessFlags := 9, code := some k1c2 }
/-- com/example/attestrum/attestrum/schemes/ec/P256FieldZeroMaskPinLaw -/
def k1 : Class := { plain "com/example/attestrum/attestrum/schemes/ec/P256FieldZeroMaskPinLaw" (some 0) with
  accessFlags := 49
  interfaces := #[]
  cf := some (fileOf pool1 10 #[] #[{ accessFlags := 2, nameIndex := 5, descriptorIndex := 6, attributes := #[] }, { accessFlags := 10, nameIndex := 13, descriptorIndex := 14, attributes := #[] }, { accessFlags := 9, nameIndex := 26, descriptorIndex := 27, attributes := #[] }] 49 2 #[] #[])
  fields := #[]
  methods := #[k1m0, k1m1, k1m2]
  instanceTypes := #[]
  staticTypes := #[]
  resolved := Array.replicate 32 none
  statics := none }

def pool2 : Array CpInfo := pool [(2, .class_ 4), (1, u "java/lang/Object"), (0, u "<init>"), (0, u "()V"), (0, .class_ 8), (0, u "com/example/attestrum/attestrum/schemes/ec/P256Field"), (19, u "Ljava/math/BigInteger;"), (72, u "P"), (0, u "LIMBS"), (0, u "I"), (2, u "MASK"), (0, u "J"), (0, u "LIMB_BITS"), (16, u "zeroMask"), (0, u "([J)J")] 4

def k2m0 : Method := { name := "<init>", desc := "()V", sig := { parameters := [], returnType := none }, accessFlags := 2, code := none }
def k2c1 : Code := { maxStack := 4, maxLocals := 4, code := prog_52_method_13_code, exceptionTable := #[], attributes := #[] }
def k2m1 : Method := { name := "zeroMask", desc := "([J)J", sig := { parameters := [(.array .long)], returnType := some .long }, accessFlags := 8, code := some k2c1 }
/-- com/example/attestrum/attestrum/schemes/ec/P256Field -/
def k2 : Class := { plain "com/example/attestrum/attestrum/schemes/ec/P256Field" (some 0) with
  accessFlags := 48
  interfaces := #[]
  cf := some (fileOf pool2 7 #[] #[{ accessFlags := 2, nameIndex := 5, descriptorIndex := 6, attributes := #[] }, { accessFlags := 8, nameIndex := 125, descriptorIndex := 126, attributes := #[] }] 48 2 #[] #[{ accessFlags := 24, nameIndex := 102, descriptorIndex := 103, attributes := #[] }, { accessFlags := 24, nameIndex := 101, descriptorIndex := 28, attributes := #[] }, { accessFlags := 26, nameIndex := 106, descriptorIndex := 107, attributes := #[] }, { accessFlags := 26, nameIndex := 108, descriptorIndex := 103, attributes := #[] }])
  fields := #[{ name := "LIMBS", type := .int, accessFlags := 24, slot := 0, constantValue := 0 }, { name := "P", type := (.object "java/math/BigInteger"), accessFlags := 24, slot := 1, constantValue := 0 }, { name := "MASK", type := .long, accessFlags := 26, slot := 2, constantValue := 0 }, { name := "LIMB_BITS", type := .int, accessFlags := 26, slot := 3, constantValue := 0 }]
  methods := #[k2m0, k2m1]
  instanceTypes := #[]
  staticTypes := #[.int, (.object "java/math/BigInteger"), .long, .int]
  resolved := Array.replicate 131 none
  statics := none }

def pool3 : Array CpInfo := pool [(1, u "java/lang/Cloneable"), (0, .class_ 1), (0, u "java/lang/Object"), (0, .class_ 3)] 3

/-- java/lang/Cloneable -/
def k3 : Class := { plain "java/lang/Cloneable" (some 0) with
  accessFlags := 1537
  interfaces := #[]
  cf := some (fileOf pool3 2 #[] #[] 1537 4 #[] #[])
  fields := #[]
  methods := #[]
  instanceTypes := #[]
  staticTypes := #[]
  resolved := Array.replicate 8 none
  statics := none }

def pool4 : Array CpInfo := pool [(1, u "java/io/Serializable"), (0, .class_ 1), (0, u "java/lang/Object"), (0, .class_ 3)] 3

/-- java/io/Serializable -/
def k4 : Class := { plain "java/io/Serializable" (some 0) with
  accessFlags := 1537
  interfaces := #[]
  cf := some (fileOf pool4 2 #[] #[] 1537 4 #[] #[])
  fields := #[]
  methods := #[]
  instanceTypes := #[]
  staticTypes := #[]
  resolved := Array.replicate 8 none
  statics := none }

/-- the primitive byte -/
def k5 : Class := { plain "byte" none with kind := .primitive 'B', accessFlags := 0x411 }
/-- [B -/
def k6 : Class := { plain "[B" (some 0) with kind := .array 5 .byte, interfaces := #[3, 4], accessFlags := 1041 }

/-- the primitive int -/
def k7 : Class := { plain "int" none with kind := .primitive 'I', accessFlags := 0x411 }
/-- [I -/
def k8 : Class := { plain "[I" (some 0) with kind := .array 7 .int, interfaces := #[3, 4], accessFlags := 1041 }

/-- the primitive long -/
def k9 : Class := { plain "long" none with kind := .primitive 'J', accessFlags := 0x411 }
/-- [J -/
def k10 : Class := { plain "[J" (some 0) with kind := .array 9 .long, interfaces := #[3, 4], accessFlags := 1041 }

def heap : Heap := #[]
def classes : Array Class := #[k0, k1, k2, k3, k4, k5, k6, k7, k8, k9, k10]
def interned : List (Array UInt16 × Addr) := []
def slotsUsed : Nat := 0
def theMethod : MethodId := ⟨1, 2⟩
def args0 : Array Value := #[.long 5, .long 6, .long 7, .long 8, .int 9]
def aboutOver (below : List Frame) : State where
  vm := { classes := classes, interned := interned.toArray }
  heap := heap
  slotsUsed := slotsUsed
  threads := #[{ frames := .invoking theMethod args0 :: below }]
def below0 : List Frame := [.native { method := ⟨0, 0⟩, args := #[] }]
def about1 : State := aboutOver below0
def p0 : Program := .bare "" "" ""
def e0 : Env := launch0.env 0 0 0
theorem w_frames : about1.frames = Frame.invoking theMethod args0 :: below0 := rfl
set_option maxRecDepth 65536 in
theorem w_args : argsFit about1.vm theMethod args0 = true := by decide +kernel
set_option maxRecDepth 65536 in
theorem w_heap : heapFits about1 = true := by decide +kernel
set_option maxRecDepth 65536 in
theorem w_runnable : about1.curStatus? = some .runnable := by decide +kernel
set_option maxRecDepth 65536 in
theorem w_alone : about1.alone = true := by decide +kernel
set_option maxRecDepth 65536 in
theorem w_named : about1.methodNamed? x = some theMethod := by decide +kernel
set_option maxRecDepth 65536 in
theorem w_hears : about1.hears theMethod below0 = true := by decide +kernel
set_option maxRecDepth 65536 in
theorem w_ripe : about1.ripe theMethod args0 below0 = true := by decide +kernel
theorem w_running : about1.status = .running := rfl
set_option maxRecDepth 65536 in
theorem w_room : about1.hasRoom e0.platform room_1 = true :=
  launch0.hasRoom_least _ room_1 (by decide +kernel) (by decide +kernel) (by decide +kernel) (by decide +kernel) (by decide +kernel) (by decide +kernel)
theorem allAtoms_all (ts : List Jvm.Cond) (a : Array Jvm.Value) (st : Jvm.State) : (allAtoms ts).before a st = ts.all (fun c => c.before a st) := by
  induction ts with
  | nil => rfl
  | cons c t ih =>
    show (Jvm.Cond.and c (allAtoms t)).before a st = _
    rw [Jvm.Cond.before_and, ih, List.all_cons]
def words1 : List Jvm.Cond := Jvm.Cond.code x code maxLocals ret :: tables_1
/-- a 'code' word, met by the world's own term for the bytes: nothing is compared byte by byte -/
theorem code_word {y : MethodName} {bytes : ByteArray} {mx : Nat} {rt : Option FieldType} {a : Array Value} {s : State} {m : MethodId} {meth : Method} {c : Code} (h1 : s.methodNamed? y = some m) (h2 : s.vm.method? m = some meth) (h3 : meth.code = some c) (h4 : c.code = bytes)
    (h5 : (c.maxLocals == mx && c.exceptionTable.isEmpty && decide (c.maxStack ≤ mostOperands) && decide (meth.sig.returnType = rt) && !meth.locks && decide (parseMethodDescriptor y.desc = some meth.sig)) = true) : (Jvm.Cond.code y bytes mx rt).before a s = true := by
  simp only [Bool.and_eq_true, beq_iff_eq, Bool.not_eq_true', decide_eq_true_eq] at h5
  obtain ⟨⟨⟨⟨⟨g1, g2⟩, g3⟩, g4⟩, g5⟩, g6⟩ := h5
  simp [Cond.before, Cond.holds, Cond.value, h1, h2, h3, h4, g1, g2, g3, g4, g5, g6]
def isCode : Jvm.Cond → Bool
  | .code _ _ _ _ => true
  | _ => false
theorem all_split {L : List Jvm.Cond} {P : Jvm.Cond → Bool} (h1 : L.all (fun c => isCode c || P c) = true) (h2 : ∀ c ∈ L.filter isCode, P c = true) : L.all P = true := by
  refine List.all_eq_true.mpr fun c hc => ?_
  have h := List.all_eq_true.mp h1 c hc
  rcases Bool.eq_false_or_eq_true (isCode c) with hi | hi
  · exact h2 c (List.mem_filter.mpr ⟨hc, hi⟩)
  · simpa [hi] using h
set_option maxRecDepth 65536 in
theorem w_c0 : (Jvm.Cond.code x code maxLocals ret).before args0 about1 = true := code_word (m := ⟨1, 2⟩) (meth := k1m2) (c := k1c2) (by decide +kernel) rfl rfl rfl (by decide +kernel)
set_option maxRecDepth 65536 in
theorem w_c1 : (Jvm.Cond.code ({ cls := "com/example/attestrum/attestrum/schemes/ec/P256FieldZeroMaskPinLaw", name := "pick", desc := "(JII)J" } : Jvm.MethodName) method_2_code (4 : Nat) (Option.some Jvm.ClassFile.FieldType.long)).before args0 about1 = true := code_word (m := ⟨1, 1⟩) (meth := k1m1) (c := k1c1) (by decide +kernel) rfl rfl rfl (by decide +kernel)
set_option maxRecDepth 65536 in
theorem w_c2 : (Jvm.Cond.code ({ cls := "com/example/attestrum/attestrum/schemes/ec/P256Field", name := "zeroMask", desc := "([J)J" } : Jvm.MethodName) prog_52_method_13_code (4 : Nat) (Option.some Jvm.ClassFile.FieldType.long)).before args0 about1 = true := code_word (m := ⟨2, 1⟩) (meth := k2m1) (c := k2c1) (by decide +kernel) rfl rfl rfl (by decide +kernel)
def codes1 : List Jvm.Cond := [Jvm.Cond.code x code maxLocals ret, Jvm.Cond.code ({ cls := "com/example/attestrum/attestrum/schemes/ec/P256FieldZeroMaskPinLaw", name := "pick", desc := "(JII)J" } : Jvm.MethodName) method_2_code (4 : Nat) (Option.some Jvm.ClassFile.FieldType.long), Jvm.Cond.code ({ cls := "com/example/attestrum/attestrum/schemes/ec/P256Field", name := "zeroMask", desc := "([J)J" } : Jvm.MethodName) prog_52_method_13_code (4 : Nat) (Option.some Jvm.ClassFile.FieldType.long)]
set_option maxRecDepth 65536 in
theorem codes_eq : words1.filter isCode = codes1 := rfl
theorem w_codes : ∀ c ∈ words1.filter isCode, c.before args0 about1 = true := by
  rw [codes_eq]
  intro c hc
  simp only [codes1, List.mem_cons, List.not_mem_nil, or_false] at hc
  rcases hc with rfl | rfl | rfl
  · exact w_c0
  · exact w_c1
  · exact w_c2
set_option maxRecDepth 65536 in
theorem w_t1 : words1.all (fun c => isCode c || c.before args0 about1) = true := by decide +kernel
theorem w_tables : (allAtoms (Jvm.Cond.code x code maxLocals ret :: tables_1)).before args0 about1 = true := by
  rw [allAtoms_all]
  show words1.all (fun c => c.before args0 about1) = true
  refine all_split ?_ w_codes
  rw [w_t1]
set_option maxRecDepth 65536 in
theorem w_case : (Jvm.Cond.and given_1 narrow_1).before args0 about1 = true := by decide +kernel
theorem w_applies : (headSpec (Jvm.Cond.code x code maxLocals ret :: tables_1) room_1).applies x e0.platform about1 = true :=
  (Spec.applies_iff w_frames).mpr ⟨w_running, w_runnable, w_alone, w_named, w_hears, w_ripe, w_room, w_tables⟩
theorem atStart : AtStart classFile x code maxLocals ret World_1 tables_1 room_1 Calls_1 rest_1 Pre_1 launch0 p0 e0 about1 theMethod args0 below0 :=
  ⟨lists_1, trivial, launch0.admits_env _ _ _, launch0.least_env, fairChoices_fair.cas, fairChoices_fair.clock, w_frames, w_args, w_heap, w_applies, trivial, trivial, w_case⟩
end start1
theorem witness_1 : WitnessClaimed_1 := ⟨start1.p0, start1.e0, start1.about1, start1.theMethod, start1.args0, start1.below0, start1.atStart⟩
end Jvm.Pilot.@@N@@
