import JvmDerived
import JvmDerived.Pilot.@@N@@Statement
import JvmDerived.Pilot.@@N@@Code
set_option linter.unusedVariables false
set_option linter.unusedSimpArgs false
namespace Jvm.Pilot.@@N@@
open Jvm Jvm.ClassFile Sem Op Lib Jvm.Free Jvm.Stand Jvm.LawKit Jvm.RoadKit Bundle Jvm.Pilot.@@N@@.Jvm.D
/-! own_Go: from t the run comes to a state where G holds. A walk is written backwards from the goal, so that a case split may stand anywhere. -/
def own_Go (p : Program) (e : Env) (below : List Frame) (G : State → Prop) (t : State) : Prop := ∃ u, Steps p.tables e below t u ∧ G u
theorem own_st {p : Program} {e : Env} {below : List Frame} {G : State → Prop} {t u : State} (f : ∀ w, Steps p.tables e below u w → Steps p.tables e below t w) (k : own_Go p e below G u) : own_Go p e below G t := by
  obtain ⟨w, s, g⟩ := k
  exact ⟨w, f w s, g⟩
theorem own_jp {p : Program} {e : Env} {below : List Frame} {G : State → Prop} {t u : State} (f : Steps p.tables e below t u) (k : own_Go p e below G u) : own_Go p e below G t := by
  obtain ⟨w, s, g⟩ := k
  exact ⟨w, f.trans s, g⟩
theorem own_out {p : Program} {e : Env} {below : List Frame} {t : State} {Q : Outcome → State → Prop} (k : own_Go p e below (fun u => ∃ o, u.status = .running ∧ Ended u below o ∧ Q o u) t) : ∃ s₂ o, Steps p.tables e below t s₂ ∧ s₂.status = .running ∧ Ended s₂ below o ∧ Q o s₂ := by
  obtain ⟨w, s, o, g⟩ := k
  exact ⟨w, o, s, g⟩
theorem own_nm {p : Program} {e : Env} {below : List Frame} {G0 : State → Prop} {t : State} (k : ∀ G, G = G0 → own_Go p e below G t) : own_Go p e below G0 t := k _ rfl
theorem own_tll {x y : Int64} (h : x < y) : lcmpW x y < 0 := (lw_lt x y).mpr h
theorem own_fll {x y : Int64} (h : ¬ x < y) : ¬ lcmpW x y < 0 := fun q => h ((lw_lt x y).mp q)
theorem own_tlg {x y : Int64} (h : y < x) : 0 < lcmpW x y := (lw_gt x y).mpr h
theorem own_flg {x y : Int64} (h : ¬ y < x) : ¬ 0 < lcmpW x y := fun q => h ((lw_gt x y).mp q)
theorem own_tle {x y : Int64} (h : x = y) : lcmpW x y = 0 := (lw_eq x y).mpr h
theorem own_fle {x y : Int64} (h : ¬ x = y) : ¬ lcmpW x y = 0 := fun q => h ((lw_eq x y).mp q)
section Own
variable {p : Program} {l : Launch} {e : Env} {R : Room} {s : State} {m : MethodId} {args : Array Value} {below : List Frame} {meth : Method} {c : Code} {T : State} {locs : List Loc} {cells slots : Nat} {Z : State} {h h' : Heap} {a b : Addr} {ty : FieldType} {vs : List Value} {v : Value}
theorem own_retI (X : Stand p l e R s m args below meth c T locs cells slots) (hx : p.tables.exec = Jvm.exec) {pc : Nat} {Ls : Array Slot} {z : Int32} {rest : List Value} (hret : meth.sig.returnType = some .int) (hd : decode c.code pc = .ok (.ireturn, 1)) {fs : List Frame}
    (hl : ∀ (f : JFrame) (acts : List Action), f.method = m → f.locked = none → f.entered = [] → (doReturn e (T.setTop f) acts (some (.int z))).1 = T.setFrames fs) : Steps p.tables e below (T.setTop (mkF m pc Ls (.int z :: rest))) (T.setFrames fs) :=
  retOut X hx hret rfl (Or.inl ⟨rfl, Or.inl rfl, z, rfl⟩) hd hl
theorem own_retJ (X : Stand p l e R s m args below meth c T locs cells slots) (hx : p.tables.exec = Jvm.exec) {pc : Nat} {Ls : Array Slot} {z : Int64} {rest : List Value} (hret : meth.sig.returnType = some .long) (hd : decode c.code pc = .ok (.lreturn, 1)) {fs : List Frame}
    (hl : ∀ (f : JFrame) (acts : List Action), f.method = m → f.locked = none → f.entered = [] → (doReturn e (T.setTop f) acts (some (.long z))).1 = T.setFrames fs) : Steps p.tables e below (T.setTop (mkF m pc Ls (.long z :: rest))) (T.setFrames fs) :=
  retOut X hx hret rfl (Or.inr (Or.inl ⟨rfl, rfl, z, rfl⟩)) hd hl
/-! own_L: the array at a holds just the list vs -/
def own_L (Z : State) (h : Heap) (a : Addr) (ty : FieldType) (vs : List Value) : Prop := ∃ cl : Cell, Arr Z h a cl ty ∧ cl.slots = vs.toArray
theorem own_L.lt (F : own_L Z h a ty vs) : a < h.size := by obtain ⟨cl, A, -⟩ := F; exact A.lt
theorem own_L.ext (F : own_L Z h a ty vs) (E : Ext h h') : own_L Z h' a ty vs := by obtain ⟨cl, A, q⟩ := F; exact ⟨cl, A.ext E, q⟩
theorem own_L.other {sl : Nat} (F : own_L Z h b ty vs) (W : Wr h h' a sl v) (q : b ≠ a) : own_L Z h' b ty vs := by obtain ⟨cl, A, r⟩ := F; exact ⟨cl, A.other W q, r⟩
theorem own_L.keep {ws : List Addr} (F : own_L Z h a ty vs) (K : Keep h h' ws) (q : a ∉ ws) : own_L Z h' a ty vs := by obtain ⟨cl, A, r⟩ := F; exact ⟨cl, ⟨K.2.1 a cl A.1 q, A.2⟩, r⟩
theorem own_L.new {k : ClassId} {z : Int32} (A : Arr Z h a (newA k ty z) ty) : own_L Z h a ty (List.replicate z.toNatClampNeg (defaultValue ty)) := ⟨_, A, by simp [newA]⟩
theorem own_L.same {k : Nat} (F : own_L Z h a ty vs) (W : Wr h h' a k v) : own_L Z h' a ty (vs.set k v) := by
  obtain ⟨cl, A, q⟩ := F
  exact ⟨_, A.same W, by simp [Cell.setSlot, q]⟩
theorem own_in {cl : Cell} {j : Int32} (q : cl.slots = vs.toArray) (h1 : ¬ j < 0) (h2 : j.toNatClampNeg < vs.length) : ¬ (j < 0 ∨ cl.slots.size ≤ j.toNatClampNeg) := by
  rw [q]
  rintro (r | r)
  · exact h1 r
  · simp at r; omega
theorem own_at {cl : Cell} {k : Nat} (q : cl.slots = vs.toArray) (hv : vs[k]? = some v) : cl.slots[k]? = some v := by rw [q]; simpa using hv
theorem own_lt {k : Nat} (hv : vs[k]? = some v) : k < vs.length := by
  obtain ⟨q, -⟩ := List.getElem?_eq_some_iff.mp hv
  exact q
theorem own_bld (X : Stand p l e R s m args below meth c T locs cells slots) (hx : p.tables.exec = Jvm.exec) (hZ : Z.Warmed39 s.vm) (eT : T.heap = h) (F : own_L Z h a .byte vs) {j : Int32} {i : Nat} (h1 : ¬ j < 0) (hi : j.toNatClampNeg = i) (hv : vs[i]? = some v) {g : JFrame} (hg : g.method = m) {rest : List Value} (hs : g.stack = .int j :: .ref a :: rest) (hd : decode c.code g.pc = .ok (.baload, 1)) :
    ∀ target, Steps p.tables e below (T.setTop { g with pc := g.pc + 1, stack := v :: rest }) target → Steps p.tables e below (T.setTop g) target := by
  obtain ⟨cl, A, q⟩ := F
  subst hi
  exact X.baloadBytes hx (by rw [eT]; exact A.1) (State.isArrayOf_alike hZ.alike A.2.1) A.2.2 (own_in q h1 (own_lt hv)) (own_at q hv) hg hs hd
theorem own_jld (X : Stand p l e R s m args below meth c T locs cells slots) (hx : p.tables.exec = Jvm.exec) (hZ : Z.Warmed39 s.vm) (eT : T.heap = h) (F : own_L Z h a .long vs) {j : Int32} {i : Nat} (h1 : ¬ j < 0) (hi : j.toNatClampNeg = i) (hv : vs[i]? = some v) {g : JFrame} (hg : g.method = m) {rest : List Value} (hs : g.stack = .int j :: .ref a :: rest) (hd : decode c.code g.pc = .ok (.laload, 1)) :
    ∀ target, Steps p.tables e below (T.setTop { g with pc := g.pc + 1, stack := v :: rest }) target → Steps p.tables e below (T.setTop g) target := by
  obtain ⟨cl, A, q⟩ := F
  subst hi
  exact X.laload hx (by rw [eT]; exact A.1) (State.isArrayOf_alike hZ.alike A.2.1) A.2.2 (own_in q h1 (own_lt hv)) (own_at q hv) hg hs hd
theorem own_ild (X : Stand p l e R s m args below meth c T locs cells slots) (hx : p.tables.exec = Jvm.exec) (hZ : Z.Warmed39 s.vm) (eT : T.heap = h) (F : own_L Z h a .int vs) {j : Int32} {i : Nat} (h1 : ¬ j < 0) (hi : j.toNatClampNeg = i) (hv : vs[i]? = some v) {g : JFrame} (hg : g.method = m) {rest : List Value} (hs : g.stack = .int j :: .ref a :: rest) (hd : decode c.code g.pc = .ok (.iaload, 1)) :
    ∀ target, Steps p.tables e below (T.setTop { g with pc := g.pc + 1, stack := v :: rest }) target → Steps p.tables e below (T.setTop g) target := by
  obtain ⟨cl, A, q⟩ := F
  subst hi
  exact X.iaload hx (by rw [eT]; exact A.1) (State.isArrayOf_alike hZ.alike A.2.1) A.2.2 (own_in q h1 (own_lt hv)) (own_at q hv) hg hs hd
theorem own_zld (X : Stand p l e R s m args below meth c T locs cells slots) (hx : p.tables.exec = Jvm.exec) (hZ : Z.Warmed39 s.vm) (eT : T.heap = h) (F : own_L Z h a .boolean vs) {j : Int32} {i : Nat} (h1 : ¬ j < 0) (hi : j.toNatClampNeg = i) (hv : vs[i]? = some v) {g : JFrame} (hg : g.method = m) {rest : List Value} (hs : g.stack = .int j :: .ref a :: rest) (hd : decode c.code g.pc = .ok (.baload, 1)) :
    ∀ target, Steps p.tables e below (T.setTop { g with pc := g.pc + 1, stack := v :: rest }) target → Steps p.tables e below (T.setTop g) target := by
  obtain ⟨cl, A, q⟩ := F
  subst hi
  exact X.baloadBooleans hx (by rw [eT]; exact A.1) (State.isArrayOf_alike hZ.alike A.2.1) A.2.2 (own_in q h1 (own_lt hv)) (own_at q hv) hg hs hd
theorem own_len (X : Stand p l e R s m args below meth c T locs cells slots) (hx : p.tables.exec = Jvm.exec) (hZ : Z.Warmed39 s.vm) (eT : T.heap = h) (F : own_L Z h a ty vs) {z : Int32} (hz : vs.length.toInt32 = z) {g : JFrame} (hg : g.method = m) {rest : List Value} (hs : g.stack = .ref a :: rest) (hd : decode c.code g.pc = .ok (.arraylength, 1)) :
    ∀ target, Steps p.tables e below (T.setTop { g with pc := g.pc + 1, stack := .int z :: rest }) target → Steps p.tables e below (T.setTop g) target := by
  obtain ⟨cl, A, q⟩ := F
  intro w k
  refine X.arraylength hx (by rw [eT]; exact A.1) (State.isArrayOf_alike hZ.alike A.2.1) hg hs hd w ?_
  have q2 : cl.slots.size.toInt32 = z := by rw [← hz, q]; simp
  rw [q2]; exact k
theorem own_bst (X : Stand p l e R s m args below meth c T locs cells slots) (hx : p.tables.exec = Jvm.exec) (hZ : Z.Warmed39 s.vm) (eT : T.heap = h) (F : own_L Z h a .byte vs) {j x : Int32} (i : Nat) (h1 : ¬ j < 0) (hi : j.toNatClampNeg = i) (h2 : i < vs.length) {g : JFrame} (hg : g.method = m) {rest : List Value} (hs : g.stack = .int x :: .int j :: .ref a :: rest) (hd : decode c.code g.pc = .ok (.bastore, 1)) :
    ∃ T' h', Stand p l e R s m args below meth c T' (locs ++ [⟨a, i⟩]) cells slots ∧ T'.heap = h' ∧ Wr h h' a i (.int x.toInt8.toInt32) ∧ own_L Z h' a .byte (vs.set i (.int x.toInt8.toInt32)) ∧ ∀ target, Steps p.tables e below (T'.setTop { g with pc := g.pc + 1, stack := rest }) target → Steps p.tables e below (T.setTop g) target := by
  obtain ⟨cl, A, q⟩ := F
  subst hi
  obtain ⟨T', h', X', e', W, st⟩ := stB X hx hZ eT A (own_in q h1 h2) hg hs hd
  exact ⟨T', h', X', e', W, own_L.same ⟨cl, A, q⟩ W, st⟩
theorem own_zst (X : Stand p l e R s m args below meth c T locs cells slots) (hx : p.tables.exec = Jvm.exec) (hZ : Z.Warmed39 s.vm) (eT : T.heap = h) (F : own_L Z h a .boolean vs) {j x : Int32} (i : Nat) (h1 : ¬ j < 0) (hi : j.toNatClampNeg = i) (h2 : i < vs.length) {g : JFrame} (hg : g.method = m) {rest : List Value} (hs : g.stack = .int x :: .int j :: .ref a :: rest) (hd : decode c.code g.pc = .ok (.bastore, 1)) :
    ∃ T' h', Stand p l e R s m args below meth c T' (locs ++ [⟨a, i⟩]) cells slots ∧ T'.heap = h' ∧ Wr h h' a i (.int (x &&& 1)) ∧ own_L Z h' a .boolean (vs.set i (.int (x &&& 1))) ∧ ∀ target, Steps p.tables e below (T'.setTop { g with pc := g.pc + 1, stack := rest }) target → Steps p.tables e below (T.setTop g) target := by
  obtain ⟨cl, A, q⟩ := F
  subst hi
  obtain ⟨T', h', X', e', W, st⟩ := stZ X hx hZ eT A (own_in q h1 h2) hg hs hd
  exact ⟨T', h', X', e', W, own_L.same ⟨cl, A, q⟩ W, st⟩
theorem own_jst (X : Stand p l e R s m args below meth c T locs cells slots) (hx : p.tables.exec = Jvm.exec) (hZ : Z.Warmed39 s.vm) (eT : T.heap = h) (F : own_L Z h a .long vs) {j : Int32} {x : Int64} (i : Nat) (h1 : ¬ j < 0) (hi : j.toNatClampNeg = i) (h2 : i < vs.length) {g : JFrame} (hg : g.method = m) {rest : List Value} (hs : g.stack = .long x :: .int j :: .ref a :: rest) (hd : decode c.code g.pc = .ok (.lastore, 1)) :
    ∃ T' h', Stand p l e R s m args below meth c T' (locs ++ [⟨a, i⟩]) cells slots ∧ T'.heap = h' ∧ Wr h h' a i (.long x) ∧ own_L Z h' a .long (vs.set i (.long x)) ∧ ∀ target, Steps p.tables e below (T'.setTop { g with pc := g.pc + 1, stack := rest }) target → Steps p.tables e below (T.setTop g) target := by
  obtain ⟨cl, A, q⟩ := F
  subst hi
  obtain ⟨T', h', X', e', W, st⟩ := stJ X hx hZ eT A (own_in q h1 h2) hg hs hd
  exact ⟨T', h', X', e', W, own_L.same ⟨cl, A, q⟩ W, st⟩
theorem own_ist (X : Stand p l e R s m args below meth c T locs cells slots) (hx : p.tables.exec = Jvm.exec) (hZ : Z.Warmed39 s.vm) (eT : T.heap = h) (F : own_L Z h a .int vs) {j x : Int32} (i : Nat) (h1 : ¬ j < 0) (hi : j.toNatClampNeg = i) (h2 : i < vs.length) {g : JFrame} (hg : g.method = m) {rest : List Value} (hs : g.stack = .int x :: .int j :: .ref a :: rest) (hd : decode c.code g.pc = .ok (.iastore, 1)) :
    ∃ T' h', Stand p l e R s m args below meth c T' (locs ++ [⟨a, i⟩]) cells slots ∧ T'.heap = h' ∧ Wr h h' a i (.int x) ∧ own_L Z h' a .int (vs.set i (.int x)) ∧ ∀ target, Steps p.tables e below (T'.setTop { g with pc := g.pc + 1, stack := rest }) target → Steps p.tables e below (T.setTop g) target := by
  obtain ⟨cl, A, q⟩ := F
  subst hi
  obtain ⟨T', h', X', e', W, st⟩ := stI X hx hZ eT A (own_in q h1 h2) hg hs hd
  exact ⟨T', h', X', e', W, own_L.same ⟨cl, A, q⟩ W, st⟩
theorem own_clone (X : Stand p l e R s m args below meth c T locs cells slots) (hx : p.tables.exec = Jvm.exec) (hZ : Z.Warmed39 s.vm) {a0 : Array Value} {own ad : String} {index : Nat} (hown : s.vm.findClass own = some m.cls)
    (w1 : (Cond.methodLink own index ⟨ad, "clone", "()Ljava/lang/Object;"⟩).before a0 Z = true) (w2 : (Cond.sameMethod ad "java/lang/Object" "clone" "()Ljava/lang/Object;").before a0 Z = true) (w3 : (Cond.native ⟨"java/lang/Object", "clone", "()Ljava/lang/Object;"⟩).before a0 Z = true)
    (w4 : (Cond.instanceMethod ⟨"java/lang/Object", "clone", "()Ljava/lang/Object;"⟩).before a0 Z = true) (w5 : (Cond.selects ad ⟨ad, "clone", "()Ljava/lang/Object;"⟩ ⟨"java/lang/Object", "clone", "()Ljava/lang/Object;"⟩).before a0 Z = true) (w6 : (Cond.castable ad "java/lang/Cloneable").before a0 Z = true)
    (eT : T.heap = h) (F : own_L Z h a ty vs) (E : Exa Z h a ad) (hfit : ∀ v ∈ vs, fits ty v = true) {g : JFrame} (hg : g.method = m) (hsize : g.locals.size = c.maxLocals) {rest : List Value} (hs : g.stack = .ref a :: rest) (hd : decode c.code g.pc = .ok (.invokevirtual index, 3))
    (hf : 1 ≤ R.frames) {W cap : Nat} (hW : 2 * g.monitorRoom + (rest.map fun v => v.category).sum ≤ W) (hl : W + 14 ≤ R.locals) (hcap : vs.length ≤ cap) (hc : cells + 1 ≤ R.cells) (hsl : slots + cap ≤ R.slots) :
    ∃ T' h', Stand p l e R s m args below meth c T' locs (cells + 1) (slots + cap) ∧ T'.heap = h' ∧ Ext h h' ∧ own_L Z h' h.size ty vs ∧ Exa Z h' h.size ad ∧
      ∀ target, Steps p.tables e below (T'.setTop { g with pc := g.pc + 3, stack := .ref h.size :: rest }) target → Steps p.tables e below (T.setTop g) target := by
  obtain ⟨cl, A, q⟩ := F
  have FC : FitC Z cl := fitC_of A fun i hi v hv => hfit v (by
    rw [q] at hv
    exact List.mem_of_getElem? (by simpa using hv))
  obtain ⟨T', h', X', e', ex, A', E', st⟩ := cloneA X hx hZ hown w1 w2 w3 w4 w5 w6 eT A E FC hg hsize hs hd hf hW hl (by rw [q]; simpa using hcap) hc hsl
  exact ⟨T', h', X', e', ex, ⟨cloneOf cl, A', q⟩, E', st⟩
end Own
theorem own_sm (q : Int32) (k : Nat) (hk : q.toBitVec.toNat % 64 = k) : (q &&& 0x3f).toInt64.toBitVec = BitVec.ofNat 64 k ∧ k < 64 := by
  have hk' : k < 64 := by omega
  refine ⟨?_, hk'⟩
  have h1 : (q &&& 0x3f).toBitVec = BitVec.ofNat 32 k := by
    apply BitVec.eq_of_toNat_eq
    have : (q &&& 0x3f).toBitVec = q.toBitVec &&& 0x3f#32 := rfl
    rw [this, BitVec.toNat_and]
    have e : (0x3f#32).toNat = 2^6 - 1 := rfl
    rw [e, Nat.and_two_pow_sub_one_eq_mod, BitVec.toNat_ofNat]
    omega
  show ((q &&& 0x3f).toBitVec).signExtend 64 = _
  rw [h1]
  have hm : (BitVec.ofNat 32 k).msb = false := by
    rw [BitVec.msb_eq_decide]; simp; omega
  rw [BitVec.signExtend_eq_setWidth_of_msb_false hm]
  apply BitVec.eq_of_toNat_eq
  simp
  omega
theorem own_smod (k : Nat) (h : k < 64) : ((BitVec.ofNat 64 k).smod 64#64).toNat = k := by
  have : ∀ k : Fin 64, ((BitVec.ofNat 64 k.val).smod 64#64).toNat = k.val := by decide
  exact this ⟨k, h⟩
theorem own_lushr (x : Int64) (q : Int32) (k : Nat) (hk : q.toBitVec.toNat % 64 = k) : ((x.toUInt64 >>> (q &&& 0x3f).toInt64.toUInt64).toInt64).toBitVec = x.toBitVec >>> k := by
  obtain ⟨h, hk'⟩ := own_sm q k hk
  show (x.toBitVec >>> ((q &&& 0x3f).toInt64.toBitVec % 64#64).toNat) = _
  rw [h]
  congr 1
  simp
  omega
theorem own_lshl (x : Int64) (q : Int32) (k : Nat) (hk : q.toBitVec.toNat % 64 = k) : (x <<< (q &&& 0x3f).toInt64).toBitVec = x.toBitVec <<< k := by
  obtain ⟨h, hk'⟩ := own_sm q k hk
  show (x.toBitVec <<< ((q &&& 0x3f).toInt64.toBitVec.smod 64#64).toNat) = _
  rw [h, own_smod k hk']
theorem own_lshr (x : Int64) (q : Int32) (k : Nat) (hk : q.toBitVec.toNat % 64 = k) : (x >>> (q &&& 0x3f).toInt64).toBitVec = x.toBitVec.sshiftRight k := by
  obtain ⟨h, hk'⟩ := own_sm q k hk
  show (x.toBitVec.sshiftRight ((q &&& 0x3f).toInt64.toBitVec.smod 64#64).toNat) = _
  rw [h, own_smod k hk']
theorem own_nn {i : Int32} {n : Nat} (h : i.toInt = n) : ¬ i < 0 := by
  have z0 : (0 : Int32).toInt = 0 := by decide
  rw [Int32.lt_iff_toInt_lt, z0]; omega
theorem own_nat {i : Int32} {n : Nat} (h : i.toInt = n) : i.toNatClampNeg = n := by
  show i.toInt.toNat = n
  omega
theorem own_up {i : Int32} {n : Nat} (h : i.toInt = n) (hn : n < 2147483647) : (i + (1 : Int32)).toInt = (n + 1 : Nat) := by
  have h1 := c_iadd i 1
  have r1 := rng32 (i + 1)
  have z1 : (1 : Int32).toInt = 1 := by decide
  rw [z1] at h1
  omega
theorem own_ltn {i j : Int32} {n k : Nat} (h : i.toInt = n) (h' : j.toInt = k) (hc : i < j) : n < k := by rw [Int32.lt_iff_toInt_lt] at hc; omega
theorem own_gen {i j : Int32} {n k : Nat} (h : i.toInt = n) (h' : j.toInt = k) (hc : ¬ i < j) : k - n = 0 := by rw [Int32.lt_iff_toInt_lt] at hc; omega
theorem own_of {i : Int32} {n : Nat} (h : i.toInt = n) : i = Int32.ofNat n := by
  have := rng32 i
  apply Int32.toInt_inj.mp
  rw [Int32.toInt_ofNat_of_lt (by omega)]; exact h
/-! a list of ints as an array's values -/
def own_bl (B : Nat → Int32) (n : Nat) : List Value := (List.range n).map fun j => .int (B j)
theorem own_bl_at (B : Nat → Int32) {n k : Nat} (hk : k < n) : (own_bl B n)[k]? = some (.int (B k)) := by simp [own_bl, hk]
theorem own_bl_len (B : Nat → Int32) (n : Nat) : (own_bl B n).length = n := by simp [own_bl]
theorem own_255 : ∀ i : Fin 64, (255#64).getLsbD i.val = decide (i.val < 8) := by decide
theorem own_255s : ∀ i : Fin 32, (255#32).getLsbD i.val = decide (i.val < 8) := by decide
theorem own_byte (y : Int64) : (((((y.toInt32).toInt8.toInt32).toInt8.toInt32) &&& (255 : Int32)).toInt64).toBitVec.toNat = y.toBitVec.toNat % 256 := by
  have h1 : ∀ z : Int32, z.toInt8.toInt32.toInt8.toInt32 = z.toInt8.toInt32 := fun z => by simp
  rw [h1]
  have e : ((((y.toInt32).toInt8.toInt32) &&& (255 : Int32)).toInt64).toBitVec = y.toBitVec &&& 255#64 := by
    show ((((y.toBitVec.signExtend 32).signExtend 8).signExtend 32) &&& 255#32).signExtend 64 = _
    have hm : ((((y.toBitVec.signExtend 32).signExtend 8).signExtend 32) &&& 255#32).msb = false := by rw [BitVec.msb_and]; simp; exact fun _ => by decide
    rw [BitVec.signExtend_eq_setWidth_of_msb_false hm]
    apply BitVec.eq_of_getLsbD_eq
    intro i hi
    rw [BitVec.getLsbD_setWidth, BitVec.getLsbD_and, BitVec.getLsbD_and, own_255 ⟨i, hi⟩]
    by_cases q : i < 8
    · have q1 : i < 32 := by omega
      rw [own_255s ⟨i, q1⟩, BitVec.getLsbD_signExtend, BitVec.getLsbD_signExtend, BitVec.getLsbD_signExtend]
      simp [q, hi, q1]
    · by_cases q1 : i < 32
      · rw [own_255s ⟨i, q1⟩]; simp [q]
      · rw [BitVec.getLsbD_of_ge _ i (by omega)]; simp [q]
  rw [e, BitVec.toNat_and]
  exact Nat.and_two_pow_sub_one_eq_mod _ 8
theorem own_shor {x b : Int64} (hx : x.toBitVec.toNat < 2 ^ 56) (hb : b.toBitVec.toNat < 256) : ((x <<< ((8 : Int32) &&& 0x3f).toInt64) ||| b).toBitVec.toNat = x.toBitVec.toNat * 256 + b.toBitVec.toNat := by
  show ((x <<< ((8 : Int32) &&& 0x3f).toInt64).toBitVec ||| b.toBitVec).toNat = _
  rw [own_lshl x 8 8 (by decide), BitVec.toNat_or, BitVec.toNat_shiftLeft, Nat.shiftLeft_eq]
  rw [Nat.mod_eq_of_lt (by omega), Nat.mul_comm, ← Nat.two_pow_add_eq_or_of_lt (i := 8) hb]
def own_key (A n : Nat) : Int64 := Int64.ofBitVec (BitVec.ofNat 64 (n * 256 ^ n + A / 2 ^ (64 - 8 * n)))
/-- one turn: k bytes taken of A, then k + 1 -/
theorem own_turn {A k n : Nat} (hA : A < 2 ^ 64) (hk : k < 7) : (n * 256 ^ k + A / 2 ^ (64 - 8 * k)) * 256 + A / 2 ^ (56 - 8 * k) % 256 = n * 256 ^ (k + 1) + A / 2 ^ (64 - 8 * (k + 1)) := by
  have e1 : 64 - 8 * (k + 1) = 56 - 8 * k := by omega
  have e2 : 64 - 8 * k = (56 - 8 * k) + 8 := by omega
  have e4 : (256 : Nat) ^ (k + 1) = 256 ^ k * 256 := Nat.pow_succ ..
  have e3 : (2 : Nat) ^ 8 = 256 := rfl
  have := Nat.div_add_mod (A / 2 ^ (56 - 8 * k)) 256
  rw [e1, e2, Nat.pow_add, ← Nat.div_div_eq_div_mul, e4, e3, Nat.add_mul, ← Nat.mul_assoc]
  omega
theorem own_small {A k n : Nat} (hA : A < 2 ^ 64) (hk : k ≤ 7) (hn : n ≤ 7) : n * 256 ^ k + A / 2 ^ (64 - 8 * k) < 8 * 256 ^ k := by
  have : A / 2 ^ (64 - 8 * k) < 256 ^ k := by
    rw [Nat.div_lt_iff_lt_mul (Nat.pow_pos (by decide))]
    have e : (256 : Nat) = 2 ^ 8 := rfl
    rw [e, ← Nat.pow_mul, ← Nat.pow_add]
    have : 8 * k + (64 - 8 * k) = 64 := by omega
    rw [this]; exact hA
  have h2 : n * 256 ^ k ≤ 7 * 256 ^ k := Nat.mul_le_mul_right _ hn
  omega
theorem own_small6 {k : Nat} (hk : k ≤ 6) : 8 * 256 ^ k < 2 ^ 56 := by
  have : (256 : Nat) ^ k ≤ 256 ^ 6 := Nat.pow_le_pow_right (by decide) hk
  have e : 8 * (256 : Nat) ^ 6 < 2 ^ 56 := by decide
  omega
theorem own_small7 {k : Nat} (hk : k ≤ 7) : 8 * 256 ^ k < 2 ^ 63 := by
  have : (256 : Nat) ^ k ≤ 256 ^ 7 := Nat.pow_le_pow_right (by decide) hk
  have e : 8 * (256 : Nat) ^ 7 < 2 ^ 63 := by decide
  omega
theorem own_neg1 {x : Int64} (h : x.toBitVec.toNat < 2 ^ 63) : ¬ (x = (-1 : Int64)) := by
  intro e
  rw [e] at h
  exact absurd h (by decide)
theorem own_keyof {x : Int64} {A n : Nat} (hA : A < 2 ^ 64) (hn : n ≤ 7) (h : x.toBitVec.toNat = n * 256 ^ n + A / 2 ^ (64 - 8 * n)) : x = own_key A n := by
  apply Int64.toBitVec_inj.mp
  apply BitVec.eq_of_toNat_eq
  show _ = (BitVec.ofNat 64 _).toNat
  rw [BitVec.toNat_ofNat, Nat.mod_eq_of_lt]
  · exact h
  · have h1 := own_small (n := n) hA hn hn
    have h2 := own_small7 hn
    omega
def own_set8 (vs : List Value) (n : Nat) (b0 b1 b2 b3 b4 b5 b6 b7 : Int32) : List Value := ((((((((vs.set n (.int b0)).set (n + 1) (.int b1)).set (n + 2) (.int b2)).set (n + 3) (.int b3)).set (n + 4) (.int b4)).set (n + 5) (.int b5)).set (n + 6) (.int b6)).set (n + 7) (.int b7))
theorem own_set8_at {vs : List Value} {n : Nat} (hv : vs.length = 16) (hn : n ≤ 7) (b0 b1 b2 b3 b4 b5 b6 b7 : Int32) (k : Nat) (hk : k < 8) :
    (own_set8 vs n b0 b1 b2 b3 b4 b5 b6 b7)[n + k]? = some (.int ([b0, b1, b2, b3, b4, b5, b6, b7].getD k 0)) := by
  have : k = 0 ∨ k = 1 ∨ k = 2 ∨ k = 3 ∨ k = 4 ∨ k = 5 ∨ k = 6 ∨ k = 7 := by omega
  unfold own_set8
  rcases this with rfl | rfl | rfl | rfl | rfl | rfl | rfl | rfl <;> simp [List.getElem?_set, List.length_set, hv] <;> omega
theorem own_exp (a : Int64) (n : Nat) (c : Int64) (q r : Int32) (hn : 0 < n) (hn7 : n ≤ 7) (h3 : c.toBitVec.toNat = n) (h1 : q.toBitVec.toNat % 64 = 8 * n) (h2 : r.toBitVec.toNat % 64 = 64 - 8 * n) :
    own_key a.toBitVec.toNat n = ((c <<< (q &&& 0x3f).toInt64) ||| ((a.toUInt64 >>> (r &&& 0x3f).toInt64.toUInt64).toInt64)) := by
  have hA := a.toBitVec.isLt
  symm
  apply own_keyof hA (by omega)
  show ((c <<< (q &&& 0x3f).toInt64).toBitVec ||| ((a.toUInt64 >>> (r &&& 0x3f).toInt64.toUInt64).toInt64).toBitVec).toNat = _
  rw [own_lshl _ _ _ h1, own_lushr _ _ _ h2, BitVec.toNat_or, BitVec.toNat_shiftLeft, BitVec.toNat_ushiftRight, h3, Nat.shiftLeft_eq, Nat.shiftRight_eq_div_pow]
  have hs : a.toBitVec.toNat / 2 ^ (64 - 8 * n) < 2 ^ (8 * n) := by
    rw [Nat.div_lt_iff_lt_mul (Nat.pow_pos (by decide)), ← Nat.pow_add, show 8 * n + (64 - 8 * n) = 64 by omega]
    exact hA
  have hp : (256 : Nat) ^ n = 2 ^ (8 * n) := by rw [Nat.pow_mul]
  rw [Nat.mod_eq_of_lt, Nat.mul_comm, ← Nat.two_pow_add_eq_or_of_lt hs, hp, Nat.mul_comm]
  have h7 := own_small7 (k := n) (by omega)
  rw [hp] at h7
  have : n * 2 ^ (8 * n) ≤ 7 * 2 ^ (8 * n) := Nat.mul_le_mul_right _ (by omega)
  omega
theorem own_addk {s : Int32} {n : Nat} (k : Nat) {w : Int32} (h2 : w.toInt = k) (hk : k ≤ 9) (h : s.toInt = n) (hn : n ≤ 7) : (s + w).toInt = (n + k : Nat) := by
  have h1 := c_iadd s w
  have r := rng32 (s + w)
  rw [h2] at h1
  omega
theorem own_seven (s : Int32) : ∃ ns : Nat, (s &&& (7 : Int32)).toInt = ns ∧ ns ≤ 7 := by
  have h := c_mask s 7 3 (by decide) (by decide)
  have : (2 ^ 3 : Nat) = 8 := rfl
  rw [this] at h
  exact ⟨(s &&& (7 : Int32)).toInt.toNat, by omega, by omega⟩
theorem own_ten (q : Int32) : ((q &&& (2147483647 : Int32)) % (10 : Int32)) = 0 ∨ ((q &&& (2147483647 : Int32)) % (10 : Int32)) = 1 ∨ ((q &&& (2147483647 : Int32)) % (10 : Int32)) = 2 ∨ ((q &&& (2147483647 : Int32)) % (10 : Int32)) = 3 ∨ ((q &&& (2147483647 : Int32)) % (10 : Int32)) = 4 ∨ ((q &&& (2147483647 : Int32)) % (10 : Int32)) = 5 ∨ ((q &&& (2147483647 : Int32)) % (10 : Int32)) = 6 ∨ ((q &&& (2147483647 : Int32)) % (10 : Int32)) = 7 ∨ ((q &&& (2147483647 : Int32)) % (10 : Int32)) = 8 ∨ ((q &&& (2147483647 : Int32)) % (10 : Int32)) = 9 := by
  have h := c_mask q 2147483647 31 (by decide) (by decide)
  have z9 : (10 : Int32).toInt = 10 := by decide
  have h0 : 0 ≤ (q &&& (2147483647 : Int32)).toInt := by rw [h]; omega
  have h1 := (c_irem (q &&& 2147483647) 10 10 z9).1 h0
  generalize ((q &&& (2147483647 : Int32)) % (10 : Int32)) = y at *
  have a0 : (0 : Int32).toInt = 0 := by decide
  have a1 : (1 : Int32).toInt = 1 := by decide
  have a2 : (2 : Int32).toInt = 2 := by decide
  have a3 : (3 : Int32).toInt = 3 := by decide
  have a4 : (4 : Int32).toInt = 4 := by decide
  have a5 : (5 : Int32).toInt = 5 := by decide
  have a6 : (6 : Int32).toInt = 6 := by decide
  have a7 : (7 : Int32).toInt = 7 := by decide
  have a8 : (8 : Int32).toInt = 8 := by decide
  have a9 : (9 : Int32).toInt = 9 := by decide
  simp only [← Int32.toInt_inj, a0, a1, a2, a3, a4, a5, a6, a7, a8, a9]
  omega
theorem own_tenl {q ln : Int32} (h : ((q &&& (2147483647 : Int32)) % (10 : Int32)) = ln) : ln = (0 : Int32) ∨ ln = (1 : Int32) ∨ ln = (2 : Int32) ∨ ln = (3 : Int32) ∨ ln = (4 : Int32) ∨ ln = (5 : Int32) ∨ ln = (6 : Int32) ∨ ln = (7 : Int32) ∨ ln = (8 : Int32) ∨ ln = (9 : Int32) := by
  subst h
  exact own_ten q
theorem own_sub {s e : Int32} {ns ne : Nat} (hs : s.toInt = ns) (he : e.toInt = ne) (hse : ns ≤ ne) : (e - s).toInt = (ne - ns : Nat) := by
  have h1 := c_isub e s
  have r := rng32 (e - s)
  have r1 := rng32 e
  omega
theorem own_le7 {s e : Int32} {ns ne : Nat} (hs : s.toInt = ns) (he : e.toInt = ne) (hse : ns ≤ ne) (h7 : ne - ns ≤ 7) : ¬ ((7 : Int32) < (e - s)) := by
  have h := own_sub hs he hse
  have z : (7 : Int32).toInt = 7 := by decide
  rw [Int32.lt_iff_toInt_lt, z]
  omega
theorem own_gt7 {s e : Int32} {ns ne : Nat} (hs : s.toInt = ns) (he : e.toInt = ne) (hse : ns ≤ ne) (h7 : 7 < ne - ns) : (7 : Int32) < (e - s) := by
  have h := own_sub hs he hse
  have z : (7 : Int32).toInt = 7 := by decide
  rw [Int32.lt_iff_toInt_lt, z]
  omega
theorem own_x0 {s e : Int32} {ns ne A : Nat} (hs : s.toInt = ns) (he : e.toInt = ne) (hse : ns ≤ ne) (hA : A < 2 ^ 64) : ((e - s).toInt64).toBitVec.toNat = (ne - ns) * 256 ^ (ns - ns) + A / 2 ^ (64 - 8 * (ns - ns)) := by
  have h := own_sub hs he hse
  have h1 := c_i2l (e - s)
  rw [Nat.sub_self, Nat.pow_zero, Nat.mul_one, Nat.mul_zero, Nat.sub_zero, Nat.div_eq_of_lt hA]
  have h2 : ((e - s).toInt64).toBitVec.toInt = (ne - ns : Nat) := by
    show ((e - s).toInt64).toInt = _
    rw [h1, h]
  rw [BitVec.toInt_eq_toNat_cond] at h2
  have := ((e - s).toInt64).toBitVec.isLt
  split at h2 <;> omega
theorem own_eqn {i j : Int32} {n k : Nat} (h : i.toInt = n) (h' : j.toInt = k) (hn : n ≤ k) (hc : ¬ i < j) : n = k := by rw [Int32.lt_iff_toInt_lt] at hc; omega
def own_A8 (a : Int64) (vs : List Value) (ns : Nat) : List Value := (own_set8 vs ns (((((a.toUInt64 >>> ((56 : Int32) &&& 0x3f).toInt64.toUInt64).toInt64).toInt32).toInt8.toInt32).toInt8.toInt32) (((((a.toUInt64 >>> ((48 : Int32) &&& 0x3f).toInt64.toUInt64).toInt64).toInt32).toInt8.toInt32).toInt8.toInt32) (((((a.toUInt64 >>> ((40 : Int32) &&& 0x3f).toInt64.toUInt64).toInt64).toInt32).toInt8.toInt32).toInt8.toInt32) (((((a.toUInt64 >>> ((32 : Int32) &&& 0x3f).toInt64.toUInt64).toInt64).toInt32).toInt8.toInt32).toInt8.toInt32) (((((a.toUInt64 >>> ((24 : Int32) &&& 0x3f).toInt64.toUInt64).toInt64).toInt32).toInt8.toInt32).toInt8.toInt32) (((((a.toUInt64 >>> ((16 : Int32) &&& 0x3f).toInt64.toUInt64).toInt64).toInt32).toInt8.toInt32).toInt8.toInt32) (((((a.toUInt64 >>> ((8 : Int32) &&& 0x3f).toInt64.toUInt64).toInt64).toInt32).toInt8.toInt32).toInt8.toInt32) (((a.toInt32).toInt8.toInt32).toInt8.toInt32))
theorem own_hget (a : Int64) {vs : List Value} {ns : Nat} (hv : vs.length = 16) (hn : ns ≤ 7) {n : Nat} (h : n ≤ 7) : ∀ j, ns ≤ j → j < ns + n → ∃ z : Int32, (own_A8 a vs ns)[j]? = some (.int z) ∧ ((z &&& (255 : Int32)).toInt64).toBitVec.toNat = a.toBitVec.toNat / 2 ^ (56 - 8 * (j - ns)) % 256 := by
  unfold own_A8
  intro j h1 h2
  obtain ⟨k, rfl⟩ : ∃ k, j = ns + k := ⟨j - ns, by omega⟩
  refine ⟨_, own_set8_at hv hn _ _ _ _ _ _ _ _ k (by omega), ?_⟩
  rw [Nat.add_sub_cancel_left]
  have : k = 0 ∨ k = 1 ∨ k = 2 ∨ k = 3 ∨ k = 4 ∨ k = 5 ∨ k = 6 := by omega
  rcases this with rfl | rfl | rfl | rfl | rfl | rfl | rfl
  · exact (own_byte _).trans (by rw [own_lushr a 56 56 (by decide), BitVec.toNat_ushiftRight, Nat.shiftRight_eq_div_pow])
  · exact (own_byte _).trans (by rw [own_lushr a 48 48 (by decide), BitVec.toNat_ushiftRight, Nat.shiftRight_eq_div_pow])
  · exact (own_byte _).trans (by rw [own_lushr a 40 40 (by decide), BitVec.toNat_ushiftRight, Nat.shiftRight_eq_div_pow])
  · exact (own_byte _).trans (by rw [own_lushr a 32 32 (by decide), BitVec.toNat_ushiftRight, Nat.shiftRight_eq_div_pow])
  · exact (own_byte _).trans (by rw [own_lushr a 24 24 (by decide), BitVec.toNat_ushiftRight, Nat.shiftRight_eq_div_pow])
  · exact (own_byte _).trans (by rw [own_lushr a 16 16 (by decide), BitVec.toNat_ushiftRight, Nat.shiftRight_eq_div_pow])
  · exact (own_byte _).trans (by rw [own_lushr a 8 8 (by decide), BitVec.toNat_ushiftRight, Nat.shiftRight_eq_div_pow])
theorem own_key0 (a : Int64) : own_key a.toBitVec.toNat 0 = 0 := (own_keyof (x := 0) a.toBitVec.isLt (by omega) (by rw [Nat.div_eq_of_lt a.toBitVec.isLt]; decide)).symm
theorem own_step {xx : Int64} {z : Int32} {ns ne ni A : Nat} (hA : A < 2 ^ 64) (hlo : ns ≤ ni) (hlt : ni < ne) (h7 : ne - ns ≤ 7) (hx : xx.toBitVec.toNat = (ne - ns) * 256 ^ (ni - ns) + A / 2 ^ (64 - 8 * (ni - ns)))
    (hz : ((z &&& (255 : Int32)).toInt64).toBitVec.toNat = A / 2 ^ (56 - 8 * (ni - ns)) % 256) : ((xx <<< ((8 : Int32) &&& 0x3f).toInt64) ||| ((z &&& (255 : Int32)).toInt64)).toBitVec.toNat = (ne - ns) * 256 ^ (ni + 1 - ns) + A / 2 ^ (64 - 8 * (ni + 1 - ns)) := by
  have h1 := own_small (n := ne - ns) hA (k := ni - ns) (by omega) h7
  have h2 := own_small6 (k := ni - ns) (by omega)
  rw [own_shor (by omega) (by rw [hz]; exact Nat.mod_lt _ (by decide)), hx, hz, show ni + 1 - ns = (ni - ns) + 1 by omega]
  exact own_turn hA (by omega)
theorem own_pos {xx : Int64} {ns ne ni A : Nat} (hA : A < 2 ^ 64) (hk : ni - ns ≤ 7) (h7 : ne - ns ≤ 7) (hx : xx.toBitVec.toNat = (ne - ns) * 256 ^ (ni - ns) + A / 2 ^ (64 - 8 * (ni - ns))) : ¬ (xx = (-1 : Int64)) := by
  have h1 := own_small (n := ne - ns) hA (k := ni - ns) hk h7
  have h2 := own_small7 (k := ni - ns) hk
  exact own_neg1 (by omega)
theorem pn_0 : plainName "com/example/passau/passau/drawing/IdList" = true := by first | (simp [plainName, overriddenIn]; done) | decide +kernel
theorem d1_0 : decode prog_18_method_16_code 0 = .ok (.iload_n 2, 1) := by decide +kernel
theorem d1_1 : decode prog_18_method_16_code 1 = .ok (.iload_n 1, 1) := by decide +kernel
theorem d1_2 : decode prog_18_method_16_code 2 = .ok (.isub, 1) := by decide +kernel
theorem d1_3 : decode prog_18_method_16_code 3 = .ok (.bipush 7, 2) := by decide +kernel
theorem d1_5 : decode prog_18_method_16_code 5 = .ok (.if_icmp .gt 10, 3) := by decide +kernel
theorem d1_8 : decode prog_18_method_16_code 8 = .ok (.iload_n 2, 1) := by decide +kernel
theorem d1_9 : decode prog_18_method_16_code 9 = .ok (.iload_n 1, 1) := by decide +kernel
theorem d1_10 : decode prog_18_method_16_code 10 = .ok (.isub, 1) := by decide +kernel
theorem d1_11 : decode prog_18_method_16_code 11 = .ok (.i2l, 1) := by decide +kernel
theorem d1_12 : decode prog_18_method_16_code 12 = .ok (.goto 6, 3) := by decide +kernel
theorem d1_18 : decode prog_18_method_16_code 18 = .ok (.lstore_n 3, 1) := by decide +kernel
theorem d1_19 : decode prog_18_method_16_code 19 = .ok (.iload_n 1, 1) := by decide +kernel
theorem d1_20 : decode prog_18_method_16_code 20 = .ok (.istore 5, 2) := by decide +kernel
theorem d1_22 : decode prog_18_method_16_code 22 = .ok (.iload 5, 2) := by decide +kernel
theorem d1_24 : decode prog_18_method_16_code 24 = .ok (.iload_n 2, 1) := by decide +kernel
theorem d1_25 : decode prog_18_method_16_code 25 = .ok (.if_icmp .ge 32, 3) := by decide +kernel
theorem d1_28 : decode prog_18_method_16_code 28 = .ok (.lload_n 3, 1) := by decide +kernel
theorem d1_29 : decode prog_18_method_16_code 29 = .ok (.ldc2_w 102, 3) := by decide +kernel
theorem d1_32 : decode prog_18_method_16_code 32 = .ok (.lcmp, 1) := by decide +kernel
theorem d1_33 : decode prog_18_method_16_code 33 = .ok (.ifCond .eq 24, 3) := by decide +kernel
theorem d1_36 : decode prog_18_method_16_code 36 = .ok (.lload_n 3, 1) := by decide +kernel
theorem d1_37 : decode prog_18_method_16_code 37 = .ok (.bipush 8, 2) := by decide +kernel
theorem d1_39 : decode prog_18_method_16_code 39 = .ok (.lshl, 1) := by decide +kernel
theorem d1_40 : decode prog_18_method_16_code 40 = .ok (.aload_n 0, 1) := by decide +kernel
theorem d1_41 : decode prog_18_method_16_code 41 = .ok (.iload 5, 2) := by decide +kernel
theorem d1_43 : decode prog_18_method_16_code 43 = .ok (.baload, 1) := by decide +kernel
theorem d1_44 : decode prog_18_method_16_code 44 = .ok (.sipush 255, 3) := by decide +kernel
theorem d1_47 : decode prog_18_method_16_code 47 = .ok (.iand, 1) := by decide +kernel
theorem d1_48 : decode prog_18_method_16_code 48 = .ok (.i2l, 1) := by decide +kernel
theorem d1_49 : decode prog_18_method_16_code 49 = .ok (.lor, 1) := by decide +kernel
theorem d1_50 : decode prog_18_method_16_code 50 = .ok (.lstore_n 3, 1) := by decide +kernel
theorem d1_51 : decode prog_18_method_16_code 51 = .ok (.iinc 5 1, 3) := by decide +kernel
theorem d1_54 : decode prog_18_method_16_code 54 = .ok (.goto (-32), 3) := by decide +kernel
theorem d1_57 : decode prog_18_method_16_code 57 = .ok (.lload_n 3, 1) := by decide +kernel
theorem d1_58 : decode prog_18_method_16_code 58 = .ok (.lreturn, 1) := by decide +kernel
theorem ef_rm1 (m : MethodId) (t0 : Addr) (ss : Int32) (ee : Int32) : entryFrame m #[(.ref t0), (.int ss), (.int ee)] 6 = mkF m 0 #[.val (.ref t0), .val (.int ss), .val (.int ee), .unset, .unset, .unset] [] := by first | (simp [entryFrame, mkF, argsToLocals, Value.category]; done) | rfl
def Q1 (Z : State) (t0 : Addr) (ss : Int32) (ee : Int32) (vs : List Value) (A : Nat) (ns : Nat) (ne : Nat) (h0 : Heap) (n0 : Nat) (rv : Option Value) (hq : Heap) (Lq : List Loc) : Prop := rv = some (.long (own_key A (ne - ns))) ∧ Fr n0 Lq ∧ hq = h0
set_option maxRecDepth 65536 in
set_option maxHeartbeats 40000000 in
theorem rm1 (l : Launch) (Z : State) (a0 : Array Value) (hw : ∀ d ∈ tables_1, d.before a0 Z = true) (ws : List Jvm.Cond) (t0 : Addr) (ss : Int32) (ee : Int32) (vs : List Value) (A : Nat) (ns : Nat) (ne : Nat) (h0 : Heap) (n0 : Nat) (Z0 : n0 ≤ h0.size) (F0_ : own_L Z h0 t0 .byte (vs)) (hs : ss.toInt = ns) (he : ee.toInt = ne) (hse : ns ≤ ne) (h7 : ne - ns ≤ 7) (h16 : ne ≤ 16) (hA : A < 2 ^ 64) (hget : ∀ j, ns ≤ j → j < ne → ∃ z : Int32, vs[j]? = some (.int z) ∧ ((z &&& (255 : Int32)).toInt64).toBitVec.toNat = A / 2 ^ (56 - 8 * (j - ns)) % 256) :
    MetFree l (⟨"com/example/passau/passau/drawing/IdList", "keyOf", "([BII)J"⟩ : MethodName) (head1 (Jvm.Cond.code (⟨"com/example/passau/passau/drawing/IdList", "keyOf", "([BII)J"⟩ : MethodName) prog_18_method_16_code 6 (some .long) :: ws) ({ frames := 0, cells := 0, slots := 0, locals := 0 } : Room)) (fun za U => za = #[(.ref t0), (.int ss), (.int ee)] ∧ Z.Warmed39 U.vm ∧ U.heap = h0) (fun _ _ _ _ _ => True) (fun _ U o U' => ∃ rv Lq, o = .returned rv ∧ Q1 Z t0 ss ee vs A ns ne h0 n0 rv U'.heap Lq ∧ FrameEnd U o U' Lq ({ frames := 0, cells := 0, slots := 0, locals := 0 } : Room).cells ({ frames := 0, cells := 0, slots := 0, locals := 0 } : Room).slots) := by
  refine MetFree.of_bodySF (plainFor_of_name pn_0) hisR ?_
  intro p e s m args below meth c s₁ Bd hml0 hP hK
  obtain ⟨rfl, hZ, hh⟩ := hP
  have hx := Bd.exec
  have hby := Bd.bytes
  have hml : c.maxLocals = 6 := hml0
  have hown : s.vm.findClass "com/example/passau/passau/drawing/IdList" = some m.cls := findClass_of_methodNamed Bd.named
  have hnm := (name_of_methodNamed Bd.named Bd.method).1
  have X0 : Stand p l e ({ frames := 0, cells := 0, slots := 0, locals := 0 } : Room) s m #[(.ref t0), (.int ss), (.int ee)] below meth c s₁ [] 0 0 := Stand.of_body Bd
  have e0 : s₁.heap = h0 := by rw [← hh, Bd.state]; rfl
  have N0 := Fr.nil n0
  refine own_out (own_nm fun G hG => own_st (fun zt zk => castTop (ef_rm1 m t0 ss ee) zk) ?_)
  show own_Go p e below G (s₁.setTop (mkF m 0 #[.val (.ref t0), .val (.int ss), .val (.int ee), .unset, .unset, .unset] []))
  refine own_st (fun zw zk => XS.iloadN X0.here hx rfl (hb hby d1_0) rfl zk) ?_
  refine own_st (fun zw zk => XS.iloadN X0.here hx rfl (hb hby d1_1) rfl zk) ?_
  refine own_st (fun zw zk => XS.isub X0.here hx rfl (hb hby d1_2) rfl zk) ?_
  refine own_st (fun zw zk => XS.bipush X0.here hx rfl (hb hby d1_3) zk) ?_
  have hc5 : ¬ ((7 : Int32) < (ee - ss)) := own_le7 hs he hse h7
  refine own_st (fun zw zk => XS.icmpNo X0.here hx rfl (hb hby d1_5) rfl (flt hc5).2.2.1 zk) ?_
  refine own_st (fun zw zk => XS.iloadN X0.here hx rfl (hb hby d1_8) rfl zk) ?_
  refine own_st (fun zw zk => XS.iloadN X0.here hx rfl (hb hby d1_9) rfl zk) ?_
  refine own_st (fun zw zk => XS.isub X0.here hx rfl (hb hby d1_10) rfl zk) ?_
  show own_Go p e below G (s₁.setTop (mkF m 11 #[.val (.ref t0), .val (.int ss), .val (.int ee), .unset, .unset, .unset] [(.int (ee - ss))]))
  refine own_st (fun zw zk => XS.i2l X0.here hx rfl (hb hby d1_11) rfl zk) ?_
  refine own_st (fun zw zk => XS.goto X0.here hx rfl (pc0 := 12) (pc' := 18) rfl (hb hby d1_12) (by decide) (by decide) zk) ?_
  show own_Go p e below G (s₁.setTop (mkF m 18 #[.val (.ref t0), .val (.int ss), .val (.int ee), .unset, .unset, .unset] [(.long ((ee - ss).toInt64))]))
  refine own_st (fun zw zk => XS.lstoreN X0.here hx rfl (hb hby d1_18) rfl rfl zk) ?_
  show own_Go p e below G (s₁.setTop (mkF m 19 #[.val (.ref t0), .val (.int ss), .val (.int ee), .val (.long ((ee - ss).toInt64)), .second, .unset] []))
  refine own_st (fun zw zk => XS.iloadN X0.here hx rfl (hb hby d1_19) rfl zk) ?_
  refine own_st (fun zw zk => XS.istore X0.here hx rfl (hb hby d1_20) rfl rfl zk) ?_
  have loop22_1 : ∀ (bk : Nat) (xx : Int64) (ii : Int32) (ni : Nat) (hi : ii.toInt = ni) (hlo : ns ≤ ni) (hn : ni ≤ ne) (hx_ : xx.toBitVec.toNat = (ne - ns) * 256 ^ (ni - ns) + A / 2 ^ (64 - 8 * (ni - ns))) (hbk : ne - ni < bk), own_Go p e below G (s₁.setTop (mkF m 22 #[.val (.ref t0), .val (.int ss), .val (.int ee), .val (.long xx), .second, .val (.int ii)] [])) := by
    intro bk
    induction bk with
    | zero =>
      intro xx ii ni hi hlo hn hx_ hbk
      exact absurd hbk (Nat.not_lt_zero _)
    | succ bk ih =>
      intro xx ii ni hi hlo hn hx_ hbk
      show own_Go p e below G (s₁.setTop (mkF m 22 #[.val (.ref t0), .val (.int ss), .val (.int ee), .val (.long xx), .second, .val (.int ii)] []))
      refine own_st (fun zw zk => XS.iload X0.here hx rfl (hb hby d1_22) rfl zk) ?_
      refine own_st (fun zw zk => XS.iloadN X0.here hx rfl (hb hby d1_24) rfl zk) ?_
      by_cases hc25 : ii < ee
      · refine own_st (fun zw zk => XS.icmpNo X0.here hx rfl (hb hby d1_25) rfl (tlt hc25).2.1 zk) ?_
        refine own_st (fun zw zk => XS.lloadN X0.here hx rfl (hb hby d1_28) rfl zk) ?_
        refine own_st (fun zw zk => X0.ldc2Long hx hown (mvT hZ (hw _ (List.mem_of_getElem? (i := 7) rfl))) (g := (mkF m 29 #[.val (.ref t0), .val (.int ss), .val (.int ee), .val (.long xx), .second, .val (.int ii)] [(.long xx)])) rfl (hb hby d1_29) _ zk) ?_
        refine own_st (fun zw zk => XS.lcmp X0.here hx rfl (hb hby d1_32) rfl zk) ?_
        have hc33 : ¬ (xx = (-1 : Int64)) := own_pos hA (by omega) h7 hx_
        refine own_st (fun zw zk => XS.ifNo X0.here hx rfl (hb hby d1_33) rfl ((if0 _ _).trans (feq (own_fle hc33)).1) zk) ?_
        refine own_st (fun zw zk => XS.lloadN X0.here hx rfl (hb hby d1_36) rfl zk) ?_
        show own_Go p e below G (s₁.setTop (mkF m 37 #[.val (.ref t0), .val (.int ss), .val (.int ee), .val (.long xx), .second, .val (.int ii)] [(.long xx)]))
        refine own_st (fun zw zk => XS.bipush X0.here hx rfl (hb hby d1_37) zk) ?_
        refine own_st (fun zw zk => XS.lshl X0.here hx rfl (hb hby d1_39) rfl zk) ?_
        refine own_st (fun zw zk => XS.aloadN X0.here hx rfl (hb hby d1_40) rfl rfl zk) ?_
        refine own_st (fun zw zk => XS.iload X0.here hx rfl (hb hby d1_41) rfl zk) ?_
        obtain ⟨z, hz, hzb⟩ := hget ni hlo (own_ltn hi he hc25)
        refine own_st (fun zw zk => own_bld X0 hx hZ e0 F0_ (j := ii) (v := (.int z)) (i := ni) (own_nn hi) (own_nat hi) hz (g := (mkF m 43 #[.val (.ref t0), .val (.int ss), .val (.int ee), .val (.long xx), .second, .val (.int ii)] [(.int ii), (.ref t0), (.long (xx <<< ((8 : Int32) &&& 0x3f).toInt64))])) rfl rfl (hb hby d1_43) _ zk) ?_
        refine own_st (fun zw zk => XS.sipush X0.here hx rfl (hb hby d1_44) zk) ?_
        refine own_st (fun zw zk => XS.iand X0.here hx rfl (hb hby d1_47) rfl zk) ?_
        refine own_st (fun zw zk => XS.i2l X0.here hx rfl (hb hby d1_48) rfl zk) ?_
        show own_Go p e below G (s₁.setTop (mkF m 49 #[.val (.ref t0), .val (.int ss), .val (.int ee), .val (.long xx), .second, .val (.int ii)] [(.long ((z &&& (255 : Int32)).toInt64)), (.long (xx <<< ((8 : Int32) &&& 0x3f).toInt64))]))
        refine own_st (fun zw zk => XS.lor X0.here hx rfl (hb hby d1_49) rfl zk) ?_
        refine own_st (fun zw zk => XS.lstoreN X0.here hx rfl (hb hby d1_50) rfl rfl zk) ?_
        show own_Go p e below G (s₁.setTop (mkF m 51 #[.val (.ref t0), .val (.int ss), .val (.int ee), .val (.long ((xx <<< ((8 : Int32) &&& 0x3f).toInt64) ||| ((z &&& (255 : Int32)).toInt64))), .second, .val (.int ii)] []))
        refine own_st (fun zw zk => XS.iinc X0.here hx rfl (hb hby d1_51) rfl rfl zk) ?_
        show own_Go p e below G (s₁.setTop (mkF m 54 #[.val (.ref t0), .val (.int ss), .val (.int ee), .val (.long ((xx <<< ((8 : Int32) &&& 0x3f).toInt64) ||| ((z &&& (255 : Int32)).toInt64))), .second, .val (.int (ii + (1 : Int32)))] []))
        refine own_st (fun zw zk => XS.goto X0.here hx rfl (pc0 := 54) (pc' := 22) rfl (hb hby d1_54) (by decide) (by decide) zk) ?_
        show own_Go p e below G (s₁.setTop (mkF m 22 #[.val (.ref t0), .val (.int ss), .val (.int ee), .val (.long ((xx <<< ((8 : Int32) &&& 0x3f).toInt64) ||| ((z &&& (255 : Int32)).toInt64))), .second, .val (.int (ii + (1 : Int32)))] []))
        exact ih ((xx <<< ((8 : Int32) &&& 0x3f).toInt64) ||| ((z &&& (255 : Int32)).toInt64)) (ii + (1 : Int32)) (ni + 1) (own_up hi (by omega)) (Nat.le_succ_of_le hlo) (own_ltn hi he hc25) (own_step hA hlo (own_ltn hi he hc25) h7 hx_ hzb) (by have := own_ltn hi he hc25; omega)
      · refine own_st (fun zw zk => XS.icmpYes X0.here hx rfl (pc0 := 25) (pc' := 57) rfl (hb hby d1_25) rfl (flt hc25).2.1 (by decide) (by decide) zk) ?_
        refine own_st (fun zw zk => XS.lloadN X0.here hx rfl (hb hby d1_57) rfl zk) ?_
        subst hG
        obtain ⟨fs, hr, hrun, hended, hW, hsame⟩ := X0.leave (v := some (.long xx)) (hlocks := Bd.notSynchronized) (fun h => by rw [Bd.returns] at h; cases h)
        refine ⟨_, own_retJ X0 hx Bd.returns (hb hby d1_58) hr, _, hrun, hended, _, _, rfl, ?_, ⟨_, rfl⟩, hW, hsame.mono (by decide) (by decide)⟩
        show Q1 Z t0 ss ee vs A ns ne h0 n0 _ s₁.heap _
        rw [e0]
        exact ⟨by rw [own_keyof hA h7 (show xx.toBitVec.toNat = _ by rw [hx_, own_eqn hi he hn hc25])], N0, rfl⟩
  show own_Go p e below G (s₁.setTop (mkF m 22 #[.val (.ref t0), .val (.int ss), .val (.int ee), .val (.long ((ee - ss).toInt64)), .second, .val (.int ss)] []))
  exact loop22_1 _ ((ee - ss).toInt64) ss (ns) (hs) (Nat.le_refl _) (hse) (own_x0 hs he hse hA) (Nat.lt_succ_self _)
theorem d1_15 : decode prog_18_method_16_code 15 = .ok (.ldc2_w 102, 3) := by decide +kernel
theorem ef_rm1b (m : MethodId) (t0 : Addr) (ss : Int32) (ee : Int32) : entryFrame m #[(.ref t0), (.int ss), (.int ee)] 6 = mkF m 0 #[.val (.ref t0), .val (.int ss), .val (.int ee), .unset, .unset, .unset] [] := by first | (simp [entryFrame, mkF, argsToLocals, Value.category]; done) | rfl
def Q1b (Z : State) (t0 : Addr) (ss : Int32) (ee : Int32) (h0 : Heap) (n0 : Nat) (rv : Option Value) (hq : Heap) (Lq : List Loc) : Prop := rv = some (.long (-1 : Int64)) ∧ Fr n0 Lq ∧ hq = h0
set_option maxRecDepth 65536 in
set_option maxHeartbeats 40000000 in
theorem rm1b (l : Launch) (Z : State) (a0 : Array Value) (hw : ∀ d ∈ tables_1, d.before a0 Z = true) (ws : List Jvm.Cond) (t0 : Addr) (ss : Int32) (ee : Int32) (h0 : Heap) (n0 : Nat) (Z0 : n0 ≤ h0.size) (hlen : (7 : Int32) < (ee - ss)) :
    MetFree l (⟨"com/example/passau/passau/drawing/IdList", "keyOf", "([BII)J"⟩ : MethodName) (head1 (Jvm.Cond.code (⟨"com/example/passau/passau/drawing/IdList", "keyOf", "([BII)J"⟩ : MethodName) prog_18_method_16_code 6 (some .long) :: ws) ({ frames := 0, cells := 0, slots := 0, locals := 0 } : Room)) (fun za U => za = #[(.ref t0), (.int ss), (.int ee)] ∧ Z.Warmed39 U.vm ∧ U.heap = h0) (fun _ _ _ _ _ => True) (fun _ U o U' => ∃ rv Lq, o = .returned rv ∧ Q1b Z t0 ss ee h0 n0 rv U'.heap Lq ∧ FrameEnd U o U' Lq ({ frames := 0, cells := 0, slots := 0, locals := 0 } : Room).cells ({ frames := 0, cells := 0, slots := 0, locals := 0 } : Room).slots) := by
  refine MetFree.of_bodySF (plainFor_of_name pn_0) hisR ?_
  intro p e s m args below meth c s₁ Bd hml0 hP hK
  obtain ⟨rfl, hZ, hh⟩ := hP
  have hx := Bd.exec
  have hby := Bd.bytes
  have hml : c.maxLocals = 6 := hml0
  have hown : s.vm.findClass "com/example/passau/passau/drawing/IdList" = some m.cls := findClass_of_methodNamed Bd.named
  have hnm := (name_of_methodNamed Bd.named Bd.method).1
  have X0 : Stand p l e ({ frames := 0, cells := 0, slots := 0, locals := 0 } : Room) s m #[(.ref t0), (.int ss), (.int ee)] below meth c s₁ [] 0 0 := Stand.of_body Bd
  have e0 : s₁.heap = h0 := by rw [← hh, Bd.state]; rfl
  have N0 := Fr.nil n0
  refine own_out (own_nm fun G hG => own_st (fun zt zk => castTop (ef_rm1b m t0 ss ee) zk) ?_)
  show own_Go p e below G (s₁.setTop (mkF m 0 #[.val (.ref t0), .val (.int ss), .val (.int ee), .unset, .unset, .unset] []))
  refine own_st (fun zw zk => XS.iloadN X0.here hx rfl (hb hby d1_0) rfl zk) ?_
  refine own_st (fun zw zk => XS.iloadN X0.here hx rfl (hb hby d1_1) rfl zk) ?_
  refine own_st (fun zw zk => XS.isub X0.here hx rfl (hb hby d1_2) rfl zk) ?_
  refine own_st (fun zw zk => XS.bipush X0.here hx rfl (hb hby d1_3) zk) ?_
  have hc5 : (7 : Int32) < (ee - ss) := hlen
  refine own_st (fun zw zk => XS.icmpYes X0.here hx rfl (pc0 := 5) (pc' := 15) rfl (hb hby d1_5) rfl (tlt hc5).2.2.1 (by decide) (by decide) zk) ?_
  refine own_st (fun zw zk => X0.ldc2Long hx hown (mvT hZ (hw _ (List.mem_of_getElem? (i := 7) rfl))) (g := (mkF m 15 #[.val (.ref t0), .val (.int ss), .val (.int ee), .unset, .unset, .unset] [])) rfl (hb hby d1_15) _ zk) ?_
  refine own_st (fun zw zk => XS.lstoreN X0.here hx rfl (hb hby d1_18) rfl rfl zk) ?_
  show own_Go p e below G (s₁.setTop (mkF m 19 #[.val (.ref t0), .val (.int ss), .val (.int ee), .val (.long (-1 : Int64)), .second, .unset] []))
  refine own_st (fun zw zk => XS.iloadN X0.here hx rfl (hb hby d1_19) rfl zk) ?_
  refine own_st (fun zw zk => XS.istore X0.here hx rfl (hb hby d1_20) rfl rfl zk) ?_
  show own_Go p e below G (s₁.setTop (mkF m 22 #[.val (.ref t0), .val (.int ss), .val (.int ee), .val (.long (-1 : Int64)), .second, .val (.int ss)] []))
  refine own_st (fun zw zk => XS.iload X0.here hx rfl (hb hby d1_22) rfl zk) ?_
  refine own_st (fun zw zk => XS.iloadN X0.here hx rfl (hb hby d1_24) rfl zk) ?_
  by_cases hc25 : ss < ee
  · refine own_st (fun zw zk => XS.icmpNo X0.here hx rfl (hb hby d1_25) rfl (tlt hc25).2.1 zk) ?_
    refine own_st (fun zw zk => XS.lloadN X0.here hx rfl (hb hby d1_28) rfl zk) ?_
    refine own_st (fun zw zk => X0.ldc2Long hx hown (mvT hZ (hw _ (List.mem_of_getElem? (i := 7) rfl))) (g := (mkF m 29 #[.val (.ref t0), .val (.int ss), .val (.int ee), .val (.long (-1 : Int64)), .second, .val (.int ss)] [(.long (-1 : Int64))])) rfl (hb hby d1_29) _ zk) ?_
    refine own_st (fun zw zk => XS.lcmp X0.here hx rfl (hb hby d1_32) rfl zk) ?_
    refine own_st (fun zw zk => XS.ifYes X0.here hx rfl (pc0 := 33) (pc' := 57) rfl (hb hby d1_33) rfl ((if0 _ _).trans (teq (own_tle (by decide : (-1 : Int64) = (-1 : Int64)))).1) (by decide) (by decide) zk) ?_
    refine own_st (fun zw zk => XS.lloadN X0.here hx rfl (hb hby d1_57) rfl zk) ?_
    show own_Go p e below G (s₁.setTop (mkF m 58 #[.val (.ref t0), .val (.int ss), .val (.int ee), .val (.long (-1 : Int64)), .second, .val (.int ss)] [(.long (-1 : Int64))]))
    subst hG
    obtain ⟨fs, hr, hrun, hended, hW, hsame⟩ := X0.leave (v := some (.long (-1 : Int64))) (hlocks := Bd.notSynchronized) (fun h => by rw [Bd.returns] at h; cases h)
    refine ⟨_, own_retJ X0 hx Bd.returns (hb hby d1_58) hr, _, hrun, hended, _, _, rfl, ?_, ⟨_, rfl⟩, hW, hsame.mono (by decide) (by decide)⟩
    show Q1b Z t0 ss ee h0 n0 _ s₁.heap _
    rw [e0]
    exact ⟨rfl, N0, rfl⟩
  · refine own_st (fun zw zk => XS.icmpYes X0.here hx rfl (pc0 := 25) (pc' := 57) rfl (hb hby d1_25) rfl (flt hc25).2.1 (by decide) (by decide) zk) ?_
    refine own_st (fun zw zk => XS.lloadN X0.here hx rfl (hb hby d1_57) rfl zk) ?_
    subst hG
    obtain ⟨fs, hr, hrun, hended, hW, hsame⟩ := X0.leave (v := some (.long (-1 : Int64))) (hlocks := Bd.notSynchronized) (fun h => by rw [Bd.returns] at h; cases h)
    refine ⟨_, own_retJ X0 hx Bd.returns (hb hby d1_58) hr, _, hrun, hended, _, _, rfl, ?_, ⟨_, rfl⟩, hW, hsame.mono (by decide) (by decide)⟩
    show Q1b Z t0 ss ee h0 n0 _ s₁.heap _
    rw [e0]
    exact ⟨rfl, N0, rfl⟩
theorem pd_0 : parseMethodDescriptor "([BII)J" = some ⟨[(.array .byte), .int, .int], some .long⟩ := by decide +kernel
theorem pn_1 : plainName "com/example/passau/passau/drawing/IdListKeyOfPinLaw" = true := by first | (simp [plainName, overriddenIn]; done) | decide +kernel
theorem ef_rm0 (m : MethodId) (q0 : Int64) (q1 : Int64) (p2 : Int32) (p3 : Int32) : entryFrame m #[(.long q0), (.long q1), (.int p2), (.int p3)] maxLocals = mkF m 0 #[.val (.long q0), .second, .val (.long q1), .second, .val (.int p2), .val (.int p3), .unset, .unset, .unset, .unset, .unset] [] := by first | (simp [entryFrame, mkF, argsToLocals, Value.category, maxLocals]; done) | rfl
def Q0 (Z : State) (q0 : Int64) (q1 : Int64) (p2 : Int32) (p3 : Int32) (h0 : Heap) (n0 : Nat) (rv : Option Value) (hq : Heap) (Lq : List Loc) : Prop := rv = some (.int 1) ∧ Fr n0 Lq
set_option maxRecDepth 65536 in
set_option maxHeartbeats 40000000 in
theorem rm0 (l : Launch) (Z : State) (a0 : Array Value) (hw : ∀ d ∈ tables_1, d.before a0 Z = true) (ws : List Jvm.Cond) (q0 : Int64) (q1 : Int64) (p2 : Int32) (p3 : Int32) (h0 : Heap) (n0 : Nat) (Z0 : n0 ≤ h0.size) :
    MetFree l x (head1 (Jvm.Cond.code x code maxLocals ret :: ws) room_1) (fun za U => za = #[(.long q0), (.long q1), (.int p2), (.int p3)] ∧ Z.Warmed39 U.vm ∧ U.heap = h0) (fun _ _ _ _ _ => True) (fun _ U o U' => ∃ rv Lq, o = .returned rv ∧ Q0 Z q0 q1 p2 p3 h0 n0 rv U'.heap Lq ∧ FrameEnd U o U' Lq room_1.cells room_1.slots) := by
  refine MetFree.of_bodySF (plainFor_of_name pn_1) hisR ?_
  intro p e s m args below meth c s₁ Bd hml0 hP hK
  obtain ⟨rfl, hZ, hh⟩ := hP
  have hx := Bd.exec
  have hby := Bd.bytes
  have hml : c.maxLocals = 11 := hml0
  have hown : s.vm.findClass "com/example/passau/passau/drawing/IdListKeyOfPinLaw" = some m.cls := findClass_of_methodNamed Bd.named
  have hnm := (name_of_methodNamed Bd.named Bd.method).1
  have X0 : Stand p l e room_1 s m #[(.long q0), (.long q1), (.int p2), (.int p3)] below meth c s₁ [] 0 0 := Stand.of_body Bd
  have e0 : s₁.heap = h0 := by rw [← hh, Bd.state]; rfl
  have N0 := Fr.nil n0
  refine own_out (own_nm fun G hG => own_st (fun zt zk => castTop (ef_rm0 m q0 q1 p2 p3) zk) ?_)
  show own_Go p e below G (s₁.setTop (mkF m 0 #[.val (.long q0), .second, .val (.long q1), .second, .val (.int p2), .val (.int p3), .unset, .unset, .unset, .unset, .unset] []))
  refine own_st (fun zw zk => XS.bipush X0.here hx rfl (hb hby at_0) zk) ?_
  obtain ⟨T2, h2, k2, X2, e2, E2, A2, st2⟩ := newP X0 hx hZ (hw _ (List.mem_of_getElem? (i := 0) rfl)) e0 (g := (mkF m 2 #[.val (.long q0), .second, .val (.long q1), .second, .val (.int p2), .val (.int p3), .unset, .unset, .unset, .unset, .unset] [(.int (16 : Int32))])) rfl (hb hby at_2) rfl (by decide) (cap := 16) (by decide) (by decide) (by decide) (by decide)
  obtain ⟨b2, g2⟩ : ∃ z, z = h0.size := ⟨_, rfl⟩
  rw [← g2] at A2 st2
  have G2 : n0 ≤ b2 := Nat.le_trans Z0 (Nat.le_of_eq g2.symm)
  have Z2 : n0 ≤ h2.size := Nat.le_trans Z0 E2.1
  have V2 : own_L Z h2 b2 .byte ([(.int (0 : Int32)), (.int (0 : Int32)), (.int (0 : Int32)), (.int (0 : Int32)), (.int (0 : Int32)), (.int (0 : Int32)), (.int (0 : Int32)), (.int (0 : Int32)), (.int (0 : Int32)), (.int (0 : Int32)), (.int (0 : Int32)), (.int (0 : Int32)), (.int (0 : Int32)), (.int (0 : Int32)), (.int (0 : Int32)), (.int (0 : Int32))]) := own_L.new A2
  refine own_st (fun zw zk => st2 zw zk) ?_
  refine own_st (fun zw zk => XS.astore X2.here hx rfl (hb hby at_4) rfl rfl rfl zk) ?_
  show own_Go p e below G (T2.setTop (mkF m 6 #[.val (.long q0), .second, .val (.long q1), .second, .val (.int p2), .val (.int p3), .val (.ref b2), .unset, .unset, .unset, .unset] []))
  refine own_st (fun zw zk => XS.aload X2.here hx rfl (hb hby at_6) rfl rfl zk) ?_
  refine own_st (fun zw zk => XS.iconst X2.here hx rfl (hb hby at_8) zk) ?_
  refine own_st (fun zw zk => XS.lloadN X2.here hx rfl (hb hby at_9) rfl zk) ?_
  refine own_st (fun zw zk => XS.l2i X2.here hx rfl (hb hby at_10) rfl zk) ?_
  refine own_st (fun zw zk => XS.i2b X2.here hx rfl (hb hby at_11) rfl zk) ?_
  obtain ⟨T3, h3, X3, e3, W3, V3, st3⟩ := own_bst X2 hx hZ e2 V2 (j := (0 : Int32)) (0) (by decide) (by decide) (Nat.le_of_ble_eq_true rfl) (g := (mkF m 12 #[.val (.long q0), .second, .val (.long q1), .second, .val (.int p2), .val (.int p3), .val (.ref b2), .unset, .unset, .unset, .unset] [(.int ((q1.toInt32).toInt8.toInt32)), (.int (0 : Int32)), (.ref b2)])) rfl rfl (hb hby at_12)
  have Vb2_3 : own_L Z h3 b2 .byte ([(.int (((q1.toInt32).toInt8.toInt32).toInt8.toInt32)), (.int (0 : Int32)), (.int (0 : Int32)), (.int (0 : Int32)), (.int (0 : Int32)), (.int (0 : Int32)), (.int (0 : Int32)), (.int (0 : Int32)), (.int (0 : Int32)), (.int (0 : Int32)), (.int (0 : Int32)), (.int (0 : Int32)), (.int (0 : Int32)), (.int (0 : Int32)), (.int (0 : Int32)), (.int (0 : Int32))]) := V3
  have N3 := Fr.snoc X3 N0 G2
  refine own_st (fun zw zk => st3 zw zk) ?_
  have Z3 : n0 ≤ h3.size := Nat.le_trans Z2 (Keep.of_wr W3).1
  refine own_st (fun zw zk => XS.aload X3.here hx rfl (hb hby at_13) rfl rfl zk) ?_
  refine own_st (fun zw zk => XS.iconst X3.here hx rfl (hb hby at_15) zk) ?_
  show own_Go p e below G (T3.setTop (mkF m 16 #[.val (.long q0), .second, .val (.long q1), .second, .val (.int p2), .val (.int p3), .val (.ref b2), .unset, .unset, .unset, .unset] [(.int (1 : Int32)), (.ref b2)]))
  refine own_st (fun zw zk => XS.lloadN X3.here hx rfl (hb hby at_16) rfl zk) ?_
  refine own_st (fun zw zk => XS.bipush X3.here hx rfl (hb hby at_17) zk) ?_
  refine own_st (fun zw zk => XS.lushr X3.here hx rfl (hb hby at_19) rfl zk) ?_
  refine own_st (fun zw zk => XS.l2i X3.here hx rfl (hb hby at_20) rfl zk) ?_
  refine own_st (fun zw zk => XS.i2b X3.here hx rfl (hb hby at_21) rfl zk) ?_
  obtain ⟨T4, h4, X4, e4, W4, V4, st4⟩ := own_bst X3 hx hZ e3 Vb2_3 (j := (1 : Int32)) (1) (by decide) (by decide) (Nat.le_of_ble_eq_true rfl) (g := (mkF m 22 #[.val (.long q0), .second, .val (.long q1), .second, .val (.int p2), .val (.int p3), .val (.ref b2), .unset, .unset, .unset, .unset] [(.int ((((q1.toUInt64 >>> ((8 : Int32) &&& 0x3f).toInt64.toUInt64).toInt64).toInt32).toInt8.toInt32)), (.int (1 : Int32)), (.ref b2)])) rfl rfl (hb hby at_22)
  have Vb2_4 : own_L Z h4 b2 .byte ([(.int (((q1.toInt32).toInt8.toInt32).toInt8.toInt32)), (.int (((((q1.toUInt64 >>> ((8 : Int32) &&& 0x3f).toInt64.toUInt64).toInt64).toInt32).toInt8.toInt32).toInt8.toInt32)), (.int (0 : Int32)), (.int (0 : Int32)), (.int (0 : Int32)), (.int (0 : Int32)), (.int (0 : Int32)), (.int (0 : Int32)), (.int (0 : Int32)), (.int (0 : Int32)), (.int (0 : Int32)), (.int (0 : Int32)), (.int (0 : Int32)), (.int (0 : Int32)), (.int (0 : Int32)), (.int (0 : Int32))]) := V4
  have N4 := Fr.snoc X4 N3 G2
  refine own_st (fun zw zk => st4 zw zk) ?_
  have Z4 : n0 ≤ h4.size := Nat.le_trans Z3 (Keep.of_wr W4).1
  refine own_st (fun zw zk => XS.aload X4.here hx rfl (hb hby at_23) rfl rfl zk) ?_
  refine own_st (fun zw zk => XS.iconst X4.here hx rfl (hb hby at_25) zk) ?_
  show own_Go p e below G (T4.setTop (mkF m 26 #[.val (.long q0), .second, .val (.long q1), .second, .val (.int p2), .val (.int p3), .val (.ref b2), .unset, .unset, .unset, .unset] [(.int (2 : Int32)), (.ref b2)]))
  refine own_st (fun zw zk => XS.lloadN X4.here hx rfl (hb hby at_26) rfl zk) ?_
  refine own_st (fun zw zk => XS.bipush X4.here hx rfl (hb hby at_27) zk) ?_
  refine own_st (fun zw zk => XS.lushr X4.here hx rfl (hb hby at_29) rfl zk) ?_
  refine own_st (fun zw zk => XS.l2i X4.here hx rfl (hb hby at_30) rfl zk) ?_
  refine own_st (fun zw zk => XS.i2b X4.here hx rfl (hb hby at_31) rfl zk) ?_
  obtain ⟨T5, h5, X5, e5, W5, V5, st5⟩ := own_bst X4 hx hZ e4 Vb2_4 (j := (2 : Int32)) (2) (by decide) (by decide) (Nat.le_of_ble_eq_true rfl) (g := (mkF m 32 #[.val (.long q0), .second, .val (.long q1), .second, .val (.int p2), .val (.int p3), .val (.ref b2), .unset, .unset, .unset, .unset] [(.int ((((q1.toUInt64 >>> ((16 : Int32) &&& 0x3f).toInt64.toUInt64).toInt64).toInt32).toInt8.toInt32)), (.int (2 : Int32)), (.ref b2)])) rfl rfl (hb hby at_32)
  have Vb2_5 : own_L Z h5 b2 .byte ([(.int (((q1.toInt32).toInt8.toInt32).toInt8.toInt32)), (.int (((((q1.toUInt64 >>> ((8 : Int32) &&& 0x3f).toInt64.toUInt64).toInt64).toInt32).toInt8.toInt32).toInt8.toInt32)), (.int (((((q1.toUInt64 >>> ((16 : Int32) &&& 0x3f).toInt64.toUInt64).toInt64).toInt32).toInt8.toInt32).toInt8.toInt32)), (.int (0 : Int32)), (.int (0 : Int32)), (.int (0 : Int32)), (.int (0 : Int32)), (.int (0 : Int32)), (.int (0 : Int32)), (.int (0 : Int32)), (.int (0 : Int32)), (.int (0 : Int32)), (.int (0 : Int32)), (.int (0 : Int32)), (.int (0 : Int32)), (.int (0 : Int32))]) := V5
  have N5 := Fr.snoc X5 N4 G2
  refine own_st (fun zw zk => st5 zw zk) ?_
  have Z5 : n0 ≤ h5.size := Nat.le_trans Z4 (Keep.of_wr W5).1
  refine own_st (fun zw zk => XS.aload X5.here hx rfl (hb hby at_33) rfl rfl zk) ?_
  refine own_st (fun zw zk => XS.iconst X5.here hx rfl (hb hby at_35) zk) ?_
  show own_Go p e below G (T5.setTop (mkF m 36 #[.val (.long q0), .second, .val (.long q1), .second, .val (.int p2), .val (.int p3), .val (.ref b2), .unset, .unset, .unset, .unset] [(.int (3 : Int32)), (.ref b2)]))
  refine own_st (fun zw zk => XS.lloadN X5.here hx rfl (hb hby at_36) rfl zk) ?_
  refine own_st (fun zw zk => XS.bipush X5.here hx rfl (hb hby at_37) zk) ?_
  refine own_st (fun zw zk => XS.lushr X5.here hx rfl (hb hby at_39) rfl zk) ?_
  refine own_st (fun zw zk => XS.l2i X5.here hx rfl (hb hby at_40) rfl zk) ?_
  refine own_st (fun zw zk => XS.i2b X5.here hx rfl (hb hby at_41) rfl zk) ?_
  obtain ⟨T6, h6, X6, e6, W6, V6, st6⟩ := own_bst X5 hx hZ e5 Vb2_5 (j := (3 : Int32)) (3) (by decide) (by decide) (Nat.le_of_ble_eq_true rfl) (g := (mkF m 42 #[.val (.long q0), .second, .val (.long q1), .second, .val (.int p2), .val (.int p3), .val (.ref b2), .unset, .unset, .unset, .unset] [(.int ((((q1.toUInt64 >>> ((24 : Int32) &&& 0x3f).toInt64.toUInt64).toInt64).toInt32).toInt8.toInt32)), (.int (3 : Int32)), (.ref b2)])) rfl rfl (hb hby at_42)
  have Vb2_6 : own_L Z h6 b2 .byte ([(.int (((q1.toInt32).toInt8.toInt32).toInt8.toInt32)), (.int (((((q1.toUInt64 >>> ((8 : Int32) &&& 0x3f).toInt64.toUInt64).toInt64).toInt32).toInt8.toInt32).toInt8.toInt32)), (.int (((((q1.toUInt64 >>> ((16 : Int32) &&& 0x3f).toInt64.toUInt64).toInt64).toInt32).toInt8.toInt32).toInt8.toInt32)), (.int (((((q1.toUInt64 >>> ((24 : Int32) &&& 0x3f).toInt64.toUInt64).toInt64).toInt32).toInt8.toInt32).toInt8.toInt32)), (.int (0 : Int32)), (.int (0 : Int32)), (.int (0 : Int32)), (.int (0 : Int32)), (.int (0 : Int32)), (.int (0 : Int32)), (.int (0 : Int32)), (.int (0 : Int32)), (.int (0 : Int32)), (.int (0 : Int32)), (.int (0 : Int32)), (.int (0 : Int32))]) := V6
  have N6 := Fr.snoc X6 N5 G2
  refine own_st (fun zw zk => st6 zw zk) ?_
  have Z6 : n0 ≤ h6.size := Nat.le_trans Z5 (Keep.of_wr W6).1
  refine own_st (fun zw zk => XS.aload X6.here hx rfl (hb hby at_43) rfl rfl zk) ?_
  refine own_st (fun zw zk => XS.iconst X6.here hx rfl (hb hby at_45) zk) ?_
  show own_Go p e below G (T6.setTop (mkF m 46 #[.val (.long q0), .second, .val (.long q1), .second, .val (.int p2), .val (.int p3), .val (.ref b2), .unset, .unset, .unset, .unset] [(.int (4 : Int32)), (.ref b2)]))
  refine own_st (fun zw zk => XS.lloadN X6.here hx rfl (hb hby at_46) rfl zk) ?_
  refine own_st (fun zw zk => XS.bipush X6.here hx rfl (hb hby at_47) zk) ?_
  refine own_st (fun zw zk => XS.lushr X6.here hx rfl (hb hby at_49) rfl zk) ?_
  refine own_st (fun zw zk => XS.l2i X6.here hx rfl (hb hby at_50) rfl zk) ?_
  refine own_st (fun zw zk => XS.i2b X6.here hx rfl (hb hby at_51) rfl zk) ?_
  obtain ⟨T7, h7, X7, e7, W7, V7, st7⟩ := own_bst X6 hx hZ e6 Vb2_6 (j := (4 : Int32)) (4) (by decide) (by decide) (Nat.le_of_ble_eq_true rfl) (g := (mkF m 52 #[.val (.long q0), .second, .val (.long q1), .second, .val (.int p2), .val (.int p3), .val (.ref b2), .unset, .unset, .unset, .unset] [(.int ((((q1.toUInt64 >>> ((32 : Int32) &&& 0x3f).toInt64.toUInt64).toInt64).toInt32).toInt8.toInt32)), (.int (4 : Int32)), (.ref b2)])) rfl rfl (hb hby at_52)
  have Vb2_7 : own_L Z h7 b2 .byte ([(.int (((q1.toInt32).toInt8.toInt32).toInt8.toInt32)), (.int (((((q1.toUInt64 >>> ((8 : Int32) &&& 0x3f).toInt64.toUInt64).toInt64).toInt32).toInt8.toInt32).toInt8.toInt32)), (.int (((((q1.toUInt64 >>> ((16 : Int32) &&& 0x3f).toInt64.toUInt64).toInt64).toInt32).toInt8.toInt32).toInt8.toInt32)), (.int (((((q1.toUInt64 >>> ((24 : Int32) &&& 0x3f).toInt64.toUInt64).toInt64).toInt32).toInt8.toInt32).toInt8.toInt32)), (.int (((((q1.toUInt64 >>> ((32 : Int32) &&& 0x3f).toInt64.toUInt64).toInt64).toInt32).toInt8.toInt32).toInt8.toInt32)), (.int (0 : Int32)), (.int (0 : Int32)), (.int (0 : Int32)), (.int (0 : Int32)), (.int (0 : Int32)), (.int (0 : Int32)), (.int (0 : Int32)), (.int (0 : Int32)), (.int (0 : Int32)), (.int (0 : Int32)), (.int (0 : Int32))]) := V7
  have N7 := Fr.snoc X7 N6 G2
  refine own_st (fun zw zk => st7 zw zk) ?_
  have Z7 : n0 ≤ h7.size := Nat.le_trans Z6 (Keep.of_wr W7).1
  refine own_st (fun zw zk => XS.aload X7.here hx rfl (hb hby at_53) rfl rfl zk) ?_
  refine own_st (fun zw zk => XS.iconst X7.here hx rfl (hb hby at_55) zk) ?_
  show own_Go p e below G (T7.setTop (mkF m 56 #[.val (.long q0), .second, .val (.long q1), .second, .val (.int p2), .val (.int p3), .val (.ref b2), .unset, .unset, .unset, .unset] [(.int (5 : Int32)), (.ref b2)]))
  refine own_st (fun zw zk => XS.lloadN X7.here hx rfl (hb hby at_56) rfl zk) ?_
  refine own_st (fun zw zk => XS.bipush X7.here hx rfl (hb hby at_57) zk) ?_
  refine own_st (fun zw zk => XS.lushr X7.here hx rfl (hb hby at_59) rfl zk) ?_
  refine own_st (fun zw zk => XS.l2i X7.here hx rfl (hb hby at_60) rfl zk) ?_
  refine own_st (fun zw zk => XS.i2b X7.here hx rfl (hb hby at_61) rfl zk) ?_
  obtain ⟨T8, h8, X8, e8, W8, V8, st8⟩ := own_bst X7 hx hZ e7 Vb2_7 (j := (5 : Int32)) (5) (by decide) (by decide) (Nat.le_of_ble_eq_true rfl) (g := (mkF m 62 #[.val (.long q0), .second, .val (.long q1), .second, .val (.int p2), .val (.int p3), .val (.ref b2), .unset, .unset, .unset, .unset] [(.int ((((q1.toUInt64 >>> ((40 : Int32) &&& 0x3f).toInt64.toUInt64).toInt64).toInt32).toInt8.toInt32)), (.int (5 : Int32)), (.ref b2)])) rfl rfl (hb hby at_62)
  have Vb2_8 : own_L Z h8 b2 .byte ([(.int (((q1.toInt32).toInt8.toInt32).toInt8.toInt32)), (.int (((((q1.toUInt64 >>> ((8 : Int32) &&& 0x3f).toInt64.toUInt64).toInt64).toInt32).toInt8.toInt32).toInt8.toInt32)), (.int (((((q1.toUInt64 >>> ((16 : Int32) &&& 0x3f).toInt64.toUInt64).toInt64).toInt32).toInt8.toInt32).toInt8.toInt32)), (.int (((((q1.toUInt64 >>> ((24 : Int32) &&& 0x3f).toInt64.toUInt64).toInt64).toInt32).toInt8.toInt32).toInt8.toInt32)), (.int (((((q1.toUInt64 >>> ((32 : Int32) &&& 0x3f).toInt64.toUInt64).toInt64).toInt32).toInt8.toInt32).toInt8.toInt32)), (.int (((((q1.toUInt64 >>> ((40 : Int32) &&& 0x3f).toInt64.toUInt64).toInt64).toInt32).toInt8.toInt32).toInt8.toInt32)), (.int (0 : Int32)), (.int (0 : Int32)), (.int (0 : Int32)), (.int (0 : Int32)), (.int (0 : Int32)), (.int (0 : Int32)), (.int (0 : Int32)), (.int (0 : Int32)), (.int (0 : Int32)), (.int (0 : Int32))]) := V8
  have N8 := Fr.snoc X8 N7 G2
  refine own_st (fun zw zk => st8 zw zk) ?_
  have Z8 : n0 ≤ h8.size := Nat.le_trans Z7 (Keep.of_wr W8).1
  refine own_st (fun zw zk => XS.aload X8.here hx rfl (hb hby at_63) rfl rfl zk) ?_
  refine own_st (fun zw zk => XS.bipush X8.here hx rfl (hb hby at_65) zk) ?_
  show own_Go p e below G (T8.setTop (mkF m 67 #[.val (.long q0), .second, .val (.long q1), .second, .val (.int p2), .val (.int p3), .val (.ref b2), .unset, .unset, .unset, .unset] [(.int (6 : Int32)), (.ref b2)]))
  refine own_st (fun zw zk => XS.lloadN X8.here hx rfl (hb hby at_67) rfl zk) ?_
  refine own_st (fun zw zk => XS.bipush X8.here hx rfl (hb hby at_68) zk) ?_
  refine own_st (fun zw zk => XS.lushr X8.here hx rfl (hb hby at_70) rfl zk) ?_
  refine own_st (fun zw zk => XS.l2i X8.here hx rfl (hb hby at_71) rfl zk) ?_
  refine own_st (fun zw zk => XS.i2b X8.here hx rfl (hb hby at_72) rfl zk) ?_
  obtain ⟨T9, h9, X9, e9, W9, V9, st9⟩ := own_bst X8 hx hZ e8 Vb2_8 (j := (6 : Int32)) (6) (by decide) (by decide) (Nat.le_of_ble_eq_true rfl) (g := (mkF m 73 #[.val (.long q0), .second, .val (.long q1), .second, .val (.int p2), .val (.int p3), .val (.ref b2), .unset, .unset, .unset, .unset] [(.int ((((q1.toUInt64 >>> ((48 : Int32) &&& 0x3f).toInt64.toUInt64).toInt64).toInt32).toInt8.toInt32)), (.int (6 : Int32)), (.ref b2)])) rfl rfl (hb hby at_73)
  have Vb2_9 : own_L Z h9 b2 .byte ([(.int (((q1.toInt32).toInt8.toInt32).toInt8.toInt32)), (.int (((((q1.toUInt64 >>> ((8 : Int32) &&& 0x3f).toInt64.toUInt64).toInt64).toInt32).toInt8.toInt32).toInt8.toInt32)), (.int (((((q1.toUInt64 >>> ((16 : Int32) &&& 0x3f).toInt64.toUInt64).toInt64).toInt32).toInt8.toInt32).toInt8.toInt32)), (.int (((((q1.toUInt64 >>> ((24 : Int32) &&& 0x3f).toInt64.toUInt64).toInt64).toInt32).toInt8.toInt32).toInt8.toInt32)), (.int (((((q1.toUInt64 >>> ((32 : Int32) &&& 0x3f).toInt64.toUInt64).toInt64).toInt32).toInt8.toInt32).toInt8.toInt32)), (.int (((((q1.toUInt64 >>> ((40 : Int32) &&& 0x3f).toInt64.toUInt64).toInt64).toInt32).toInt8.toInt32).toInt8.toInt32)), (.int (((((q1.toUInt64 >>> ((48 : Int32) &&& 0x3f).toInt64.toUInt64).toInt64).toInt32).toInt8.toInt32).toInt8.toInt32)), (.int (0 : Int32)), (.int (0 : Int32)), (.int (0 : Int32)), (.int (0 : Int32)), (.int (0 : Int32)), (.int (0 : Int32)), (.int (0 : Int32)), (.int (0 : Int32)), (.int (0 : Int32))]) := V9
  have N9 := Fr.snoc X9 N8 G2
  refine own_st (fun zw zk => st9 zw zk) ?_
  have Z9 : n0 ≤ h9.size := Nat.le_trans Z8 (Keep.of_wr W9).1
  refine own_st (fun zw zk => XS.aload X9.here hx rfl (hb hby at_74) rfl rfl zk) ?_
  refine own_st (fun zw zk => XS.bipush X9.here hx rfl (hb hby at_76) zk) ?_
  show own_Go p e below G (T9.setTop (mkF m 78 #[.val (.long q0), .second, .val (.long q1), .second, .val (.int p2), .val (.int p3), .val (.ref b2), .unset, .unset, .unset, .unset] [(.int (7 : Int32)), (.ref b2)]))
  refine own_st (fun zw zk => XS.lloadN X9.here hx rfl (hb hby at_78) rfl zk) ?_
  refine own_st (fun zw zk => XS.bipush X9.here hx rfl (hb hby at_79) zk) ?_
  refine own_st (fun zw zk => XS.lushr X9.here hx rfl (hb hby at_81) rfl zk) ?_
  refine own_st (fun zw zk => XS.l2i X9.here hx rfl (hb hby at_82) rfl zk) ?_
  refine own_st (fun zw zk => XS.i2b X9.here hx rfl (hb hby at_83) rfl zk) ?_
  obtain ⟨T10, h10, X10, e10, W10, V10, st10⟩ := own_bst X9 hx hZ e9 Vb2_9 (j := (7 : Int32)) (7) (by decide) (by decide) (Nat.le_of_ble_eq_true rfl) (g := (mkF m 84 #[.val (.long q0), .second, .val (.long q1), .second, .val (.int p2), .val (.int p3), .val (.ref b2), .unset, .unset, .unset, .unset] [(.int ((((q1.toUInt64 >>> ((56 : Int32) &&& 0x3f).toInt64.toUInt64).toInt64).toInt32).toInt8.toInt32)), (.int (7 : Int32)), (.ref b2)])) rfl rfl (hb hby at_84)
  have Vb2_10 : own_L Z h10 b2 .byte ([(.int (((q1.toInt32).toInt8.toInt32).toInt8.toInt32)), (.int (((((q1.toUInt64 >>> ((8 : Int32) &&& 0x3f).toInt64.toUInt64).toInt64).toInt32).toInt8.toInt32).toInt8.toInt32)), (.int (((((q1.toUInt64 >>> ((16 : Int32) &&& 0x3f).toInt64.toUInt64).toInt64).toInt32).toInt8.toInt32).toInt8.toInt32)), (.int (((((q1.toUInt64 >>> ((24 : Int32) &&& 0x3f).toInt64.toUInt64).toInt64).toInt32).toInt8.toInt32).toInt8.toInt32)), (.int (((((q1.toUInt64 >>> ((32 : Int32) &&& 0x3f).toInt64.toUInt64).toInt64).toInt32).toInt8.toInt32).toInt8.toInt32)), (.int (((((q1.toUInt64 >>> ((40 : Int32) &&& 0x3f).toInt64.toUInt64).toInt64).toInt32).toInt8.toInt32).toInt8.toInt32)), (.int (((((q1.toUInt64 >>> ((48 : Int32) &&& 0x3f).toInt64.toUInt64).toInt64).toInt32).toInt8.toInt32).toInt8.toInt32)), (.int (((((q1.toUInt64 >>> ((56 : Int32) &&& 0x3f).toInt64.toUInt64).toInt64).toInt32).toInt8.toInt32).toInt8.toInt32)), (.int (0 : Int32)), (.int (0 : Int32)), (.int (0 : Int32)), (.int (0 : Int32)), (.int (0 : Int32)), (.int (0 : Int32)), (.int (0 : Int32)), (.int (0 : Int32))]) := V10
  have N10 := Fr.snoc X10 N9 G2
  refine own_st (fun zw zk => st10 zw zk) ?_
  have Z10 : n0 ≤ h10.size := Nat.le_trans Z9 (Keep.of_wr W10).1
  refine own_st (fun zw zk => XS.aload X10.here hx rfl (hb hby at_85) rfl rfl zk) ?_
  refine own_st (fun zw zk => XS.bipush X10.here hx rfl (hb hby at_87) zk) ?_
  show own_Go p e below G (T10.setTop (mkF m 89 #[.val (.long q0), .second, .val (.long q1), .second, .val (.int p2), .val (.int p3), .val (.ref b2), .unset, .unset, .unset, .unset] [(.int (8 : Int32)), (.ref b2)]))
  refine own_st (fun zw zk => XS.lloadN X10.here hx rfl (hb hby at_89) rfl zk) ?_
  refine own_st (fun zw zk => X10.ldc2Long hx hown (mvT hZ (hw _ (List.mem_of_getElem? (i := 1) rfl))) (g := (mkF m 90 #[.val (.long q0), .second, .val (.long q1), .second, .val (.int p2), .val (.int p3), .val (.ref b2), .unset, .unset, .unset, .unset] [(.long q1), (.int (8 : Int32)), (.ref b2)])) rfl (hb hby at_90) _ zk) ?_
  refine own_st (fun zw zk => XS.lxor X10.here hx rfl (hb hby at_93) rfl zk) ?_
  refine own_st (fun zw zk => XS.l2i X10.here hx rfl (hb hby at_94) rfl zk) ?_
  refine own_st (fun zw zk => XS.i2b X10.here hx rfl (hb hby at_95) rfl zk) ?_
  obtain ⟨T11, h11, X11, e11, W11, V11, st11⟩ := own_bst X10 hx hZ e10 Vb2_10 (j := (8 : Int32)) (8) (by decide) (by decide) (Nat.le_of_ble_eq_true rfl) (g := (mkF m 96 #[.val (.long q0), .second, .val (.long q1), .second, .val (.int p2), .val (.int p3), .val (.ref b2), .unset, .unset, .unset, .unset] [(.int (((q1 ^^^ (-1 : Int64)).toInt32).toInt8.toInt32)), (.int (8 : Int32)), (.ref b2)])) rfl rfl (hb hby at_96)
  have Vb2_11 : own_L Z h11 b2 .byte ([(.int (((q1.toInt32).toInt8.toInt32).toInt8.toInt32)), (.int (((((q1.toUInt64 >>> ((8 : Int32) &&& 0x3f).toInt64.toUInt64).toInt64).toInt32).toInt8.toInt32).toInt8.toInt32)), (.int (((((q1.toUInt64 >>> ((16 : Int32) &&& 0x3f).toInt64.toUInt64).toInt64).toInt32).toInt8.toInt32).toInt8.toInt32)), (.int (((((q1.toUInt64 >>> ((24 : Int32) &&& 0x3f).toInt64.toUInt64).toInt64).toInt32).toInt8.toInt32).toInt8.toInt32)), (.int (((((q1.toUInt64 >>> ((32 : Int32) &&& 0x3f).toInt64.toUInt64).toInt64).toInt32).toInt8.toInt32).toInt8.toInt32)), (.int (((((q1.toUInt64 >>> ((40 : Int32) &&& 0x3f).toInt64.toUInt64).toInt64).toInt32).toInt8.toInt32).toInt8.toInt32)), (.int (((((q1.toUInt64 >>> ((48 : Int32) &&& 0x3f).toInt64.toUInt64).toInt64).toInt32).toInt8.toInt32).toInt8.toInt32)), (.int (((((q1.toUInt64 >>> ((56 : Int32) &&& 0x3f).toInt64.toUInt64).toInt64).toInt32).toInt8.toInt32).toInt8.toInt32)), (.int ((((q1 ^^^ (-1 : Int64)).toInt32).toInt8.toInt32).toInt8.toInt32)), (.int (0 : Int32)), (.int (0 : Int32)), (.int (0 : Int32)), (.int (0 : Int32)), (.int (0 : Int32)), (.int (0 : Int32)), (.int (0 : Int32))]) := V11
  have N11 := Fr.snoc X11 N10 G2
  refine own_st (fun zw zk => st11 zw zk) ?_
  have Z11 : n0 ≤ h11.size := Nat.le_trans Z10 (Keep.of_wr W11).1
  refine own_st (fun zw zk => XS.aload X11.here hx rfl (hb hby at_97) rfl rfl zk) ?_
  refine own_st (fun zw zk => XS.bipush X11.here hx rfl (hb hby at_99) zk) ?_
  show own_Go p e below G (T11.setTop (mkF m 101 #[.val (.long q0), .second, .val (.long q1), .second, .val (.int p2), .val (.int p3), .val (.ref b2), .unset, .unset, .unset, .unset] [(.int (9 : Int32)), (.ref b2)]))
  refine own_st (fun zw zk => XS.lloadN X11.here hx rfl (hb hby at_101) rfl zk) ?_
  refine own_st (fun zw zk => XS.bipush X11.here hx rfl (hb hby at_102) zk) ?_
  refine own_st (fun zw zk => XS.lushr X11.here hx rfl (hb hby at_104) rfl zk) ?_
  refine own_st (fun zw zk => X11.ldc2Long hx hown (mvT hZ (hw _ (List.mem_of_getElem? (i := 1) rfl))) (g := (mkF m 105 #[.val (.long q0), .second, .val (.long q1), .second, .val (.int p2), .val (.int p3), .val (.ref b2), .unset, .unset, .unset, .unset] [(.long ((q1.toUInt64 >>> ((8 : Int32) &&& 0x3f).toInt64.toUInt64).toInt64)), (.int (9 : Int32)), (.ref b2)])) rfl (hb hby at_105) _ zk) ?_
  refine own_st (fun zw zk => XS.lxor X11.here hx rfl (hb hby at_108) rfl zk) ?_
  refine own_st (fun zw zk => XS.l2i X11.here hx rfl (hb hby at_109) rfl zk) ?_
  refine own_st (fun zw zk => XS.i2b X11.here hx rfl (hb hby at_110) rfl zk) ?_
  obtain ⟨T12, h12, X12, e12, W12, V12, st12⟩ := own_bst X11 hx hZ e11 Vb2_11 (j := (9 : Int32)) (9) (by decide) (by decide) (Nat.le_of_ble_eq_true rfl) (g := (mkF m 111 #[.val (.long q0), .second, .val (.long q1), .second, .val (.int p2), .val (.int p3), .val (.ref b2), .unset, .unset, .unset, .unset] [(.int (((((q1.toUInt64 >>> ((8 : Int32) &&& 0x3f).toInt64.toUInt64).toInt64) ^^^ (-1 : Int64)).toInt32).toInt8.toInt32)), (.int (9 : Int32)), (.ref b2)])) rfl rfl (hb hby at_111)
  have Vb2_12 : own_L Z h12 b2 .byte ([(.int (((q1.toInt32).toInt8.toInt32).toInt8.toInt32)), (.int (((((q1.toUInt64 >>> ((8 : Int32) &&& 0x3f).toInt64.toUInt64).toInt64).toInt32).toInt8.toInt32).toInt8.toInt32)), (.int (((((q1.toUInt64 >>> ((16 : Int32) &&& 0x3f).toInt64.toUInt64).toInt64).toInt32).toInt8.toInt32).toInt8.toInt32)), (.int (((((q1.toUInt64 >>> ((24 : Int32) &&& 0x3f).toInt64.toUInt64).toInt64).toInt32).toInt8.toInt32).toInt8.toInt32)), (.int (((((q1.toUInt64 >>> ((32 : Int32) &&& 0x3f).toInt64.toUInt64).toInt64).toInt32).toInt8.toInt32).toInt8.toInt32)), (.int (((((q1.toUInt64 >>> ((40 : Int32) &&& 0x3f).toInt64.toUInt64).toInt64).toInt32).toInt8.toInt32).toInt8.toInt32)), (.int (((((q1.toUInt64 >>> ((48 : Int32) &&& 0x3f).toInt64.toUInt64).toInt64).toInt32).toInt8.toInt32).toInt8.toInt32)), (.int (((((q1.toUInt64 >>> ((56 : Int32) &&& 0x3f).toInt64.toUInt64).toInt64).toInt32).toInt8.toInt32).toInt8.toInt32)), (.int ((((q1 ^^^ (-1 : Int64)).toInt32).toInt8.toInt32).toInt8.toInt32)), (.int ((((((q1.toUInt64 >>> ((8 : Int32) &&& 0x3f).toInt64.toUInt64).toInt64) ^^^ (-1 : Int64)).toInt32).toInt8.toInt32).toInt8.toInt32)), (.int (0 : Int32)), (.int (0 : Int32)), (.int (0 : Int32)), (.int (0 : Int32)), (.int (0 : Int32)), (.int (0 : Int32))]) := V12
  have N12 := Fr.snoc X12 N11 G2
  refine own_st (fun zw zk => st12 zw zk) ?_
  have Z12 : n0 ≤ h12.size := Nat.le_trans Z11 (Keep.of_wr W12).1
  show own_Go p e below G (T12.setTop (mkF m 112 #[.val (.long q0), .second, .val (.long q1), .second, .val (.int p2), .val (.int p3), .val (.ref b2), .unset, .unset, .unset, .unset] []))
  refine own_st (fun zw zk => XS.aload X12.here hx rfl (hb hby at_112) rfl rfl zk) ?_
  refine own_st (fun zw zk => XS.bipush X12.here hx rfl (hb hby at_114) zk) ?_
  refine own_st (fun zw zk => XS.lloadN X12.here hx rfl (hb hby at_116) rfl zk) ?_
  refine own_st (fun zw zk => XS.bipush X12.here hx rfl (hb hby at_117) zk) ?_
  refine own_st (fun zw zk => XS.lushr X12.here hx rfl (hb hby at_119) rfl zk) ?_
  refine own_st (fun zw zk => X12.ldc2Long hx hown (mvT hZ (hw _ (List.mem_of_getElem? (i := 1) rfl))) (g := (mkF m 120 #[.val (.long q0), .second, .val (.long q1), .second, .val (.int p2), .val (.int p3), .val (.ref b2), .unset, .unset, .unset, .unset] [(.long ((q1.toUInt64 >>> ((16 : Int32) &&& 0x3f).toInt64.toUInt64).toInt64)), (.int (10 : Int32)), (.ref b2)])) rfl (hb hby at_120) _ zk) ?_
  refine own_st (fun zw zk => XS.lxor X12.here hx rfl (hb hby at_123) rfl zk) ?_
  refine own_st (fun zw zk => XS.l2i X12.here hx rfl (hb hby at_124) rfl zk) ?_
  show own_Go p e below G (T12.setTop (mkF m 125 #[.val (.long q0), .second, .val (.long q1), .second, .val (.int p2), .val (.int p3), .val (.ref b2), .unset, .unset, .unset, .unset] [(.int ((((q1.toUInt64 >>> ((16 : Int32) &&& 0x3f).toInt64.toUInt64).toInt64) ^^^ (-1 : Int64)).toInt32)), (.int (10 : Int32)), (.ref b2)]))
  refine own_st (fun zw zk => XS.i2b X12.here hx rfl (hb hby at_125) rfl zk) ?_
  obtain ⟨T13, h13, X13, e13, W13, V13, st13⟩ := own_bst X12 hx hZ e12 Vb2_12 (j := (10 : Int32)) (10) (by decide) (by decide) (Nat.le_of_ble_eq_true rfl) (g := (mkF m 126 #[.val (.long q0), .second, .val (.long q1), .second, .val (.int p2), .val (.int p3), .val (.ref b2), .unset, .unset, .unset, .unset] [(.int (((((q1.toUInt64 >>> ((16 : Int32) &&& 0x3f).toInt64.toUInt64).toInt64) ^^^ (-1 : Int64)).toInt32).toInt8.toInt32)), (.int (10 : Int32)), (.ref b2)])) rfl rfl (hb hby at_126)
  have Vb2_13 : own_L Z h13 b2 .byte ([(.int (((q1.toInt32).toInt8.toInt32).toInt8.toInt32)), (.int (((((q1.toUInt64 >>> ((8 : Int32) &&& 0x3f).toInt64.toUInt64).toInt64).toInt32).toInt8.toInt32).toInt8.toInt32)), (.int (((((q1.toUInt64 >>> ((16 : Int32) &&& 0x3f).toInt64.toUInt64).toInt64).toInt32).toInt8.toInt32).toInt8.toInt32)), (.int (((((q1.toUInt64 >>> ((24 : Int32) &&& 0x3f).toInt64.toUInt64).toInt64).toInt32).toInt8.toInt32).toInt8.toInt32)), (.int (((((q1.toUInt64 >>> ((32 : Int32) &&& 0x3f).toInt64.toUInt64).toInt64).toInt32).toInt8.toInt32).toInt8.toInt32)), (.int (((((q1.toUInt64 >>> ((40 : Int32) &&& 0x3f).toInt64.toUInt64).toInt64).toInt32).toInt8.toInt32).toInt8.toInt32)), (.int (((((q1.toUInt64 >>> ((48 : Int32) &&& 0x3f).toInt64.toUInt64).toInt64).toInt32).toInt8.toInt32).toInt8.toInt32)), (.int (((((q1.toUInt64 >>> ((56 : Int32) &&& 0x3f).toInt64.toUInt64).toInt64).toInt32).toInt8.toInt32).toInt8.toInt32)), (.int ((((q1 ^^^ (-1 : Int64)).toInt32).toInt8.toInt32).toInt8.toInt32)), (.int ((((((q1.toUInt64 >>> ((8 : Int32) &&& 0x3f).toInt64.toUInt64).toInt64) ^^^ (-1 : Int64)).toInt32).toInt8.toInt32).toInt8.toInt32)), (.int ((((((q1.toUInt64 >>> ((16 : Int32) &&& 0x3f).toInt64.toUInt64).toInt64) ^^^ (-1 : Int64)).toInt32).toInt8.toInt32).toInt8.toInt32)), (.int (0 : Int32)), (.int (0 : Int32)), (.int (0 : Int32)), (.int (0 : Int32)), (.int (0 : Int32))]) := V13
  have N13 := Fr.snoc X13 N12 G2
  refine own_st (fun zw zk => st13 zw zk) ?_
  have Z13 : n0 ≤ h13.size := Nat.le_trans Z12 (Keep.of_wr W13).1
  refine own_st (fun zw zk => XS.aload X13.here hx rfl (hb hby at_127) rfl rfl zk) ?_
  refine own_st (fun zw zk => XS.bipush X13.here hx rfl (hb hby at_129) zk) ?_
  refine own_st (fun zw zk => XS.lloadN X13.here hx rfl (hb hby at_131) rfl zk) ?_
  refine own_st (fun zw zk => XS.bipush X13.here hx rfl (hb hby at_132) zk) ?_
  refine own_st (fun zw zk => XS.lushr X13.here hx rfl (hb hby at_134) rfl zk) ?_
  refine own_st (fun zw zk => X13.ldc2Long hx hown (mvT hZ (hw _ (List.mem_of_getElem? (i := 1) rfl))) (g := (mkF m 135 #[.val (.long q0), .second, .val (.long q1), .second, .val (.int p2), .val (.int p3), .val (.ref b2), .unset, .unset, .unset, .unset] [(.long ((q1.toUInt64 >>> ((24 : Int32) &&& 0x3f).toInt64.toUInt64).toInt64)), (.int (11 : Int32)), (.ref b2)])) rfl (hb hby at_135) _ zk) ?_
  show own_Go p e below G (T13.setTop (mkF m 138 #[.val (.long q0), .second, .val (.long q1), .second, .val (.int p2), .val (.int p3), .val (.ref b2), .unset, .unset, .unset, .unset] [(.long (-1 : Int64)), (.long ((q1.toUInt64 >>> ((24 : Int32) &&& 0x3f).toInt64.toUInt64).toInt64)), (.int (11 : Int32)), (.ref b2)]))
  refine own_st (fun zw zk => XS.lxor X13.here hx rfl (hb hby at_138) rfl zk) ?_
  refine own_st (fun zw zk => XS.l2i X13.here hx rfl (hb hby at_139) rfl zk) ?_
  refine own_st (fun zw zk => XS.i2b X13.here hx rfl (hb hby at_140) rfl zk) ?_
  obtain ⟨T14, h14, X14, e14, W14, V14, st14⟩ := own_bst X13 hx hZ e13 Vb2_13 (j := (11 : Int32)) (11) (by decide) (by decide) (Nat.le_of_ble_eq_true rfl) (g := (mkF m 141 #[.val (.long q0), .second, .val (.long q1), .second, .val (.int p2), .val (.int p3), .val (.ref b2), .unset, .unset, .unset, .unset] [(.int (((((q1.toUInt64 >>> ((24 : Int32) &&& 0x3f).toInt64.toUInt64).toInt64) ^^^ (-1 : Int64)).toInt32).toInt8.toInt32)), (.int (11 : Int32)), (.ref b2)])) rfl rfl (hb hby at_141)
  have Vb2_14 : own_L Z h14 b2 .byte ([(.int (((q1.toInt32).toInt8.toInt32).toInt8.toInt32)), (.int (((((q1.toUInt64 >>> ((8 : Int32) &&& 0x3f).toInt64.toUInt64).toInt64).toInt32).toInt8.toInt32).toInt8.toInt32)), (.int (((((q1.toUInt64 >>> ((16 : Int32) &&& 0x3f).toInt64.toUInt64).toInt64).toInt32).toInt8.toInt32).toInt8.toInt32)), (.int (((((q1.toUInt64 >>> ((24 : Int32) &&& 0x3f).toInt64.toUInt64).toInt64).toInt32).toInt8.toInt32).toInt8.toInt32)), (.int (((((q1.toUInt64 >>> ((32 : Int32) &&& 0x3f).toInt64.toUInt64).toInt64).toInt32).toInt8.toInt32).toInt8.toInt32)), (.int (((((q1.toUInt64 >>> ((40 : Int32) &&& 0x3f).toInt64.toUInt64).toInt64).toInt32).toInt8.toInt32).toInt8.toInt32)), (.int (((((q1.toUInt64 >>> ((48 : Int32) &&& 0x3f).toInt64.toUInt64).toInt64).toInt32).toInt8.toInt32).toInt8.toInt32)), (.int (((((q1.toUInt64 >>> ((56 : Int32) &&& 0x3f).toInt64.toUInt64).toInt64).toInt32).toInt8.toInt32).toInt8.toInt32)), (.int ((((q1 ^^^ (-1 : Int64)).toInt32).toInt8.toInt32).toInt8.toInt32)), (.int ((((((q1.toUInt64 >>> ((8 : Int32) &&& 0x3f).toInt64.toUInt64).toInt64) ^^^ (-1 : Int64)).toInt32).toInt8.toInt32).toInt8.toInt32)), (.int ((((((q1.toUInt64 >>> ((16 : Int32) &&& 0x3f).toInt64.toUInt64).toInt64) ^^^ (-1 : Int64)).toInt32).toInt8.toInt32).toInt8.toInt32)), (.int ((((((q1.toUInt64 >>> ((24 : Int32) &&& 0x3f).toInt64.toUInt64).toInt64) ^^^ (-1 : Int64)).toInt32).toInt8.toInt32).toInt8.toInt32)), (.int (0 : Int32)), (.int (0 : Int32)), (.int (0 : Int32)), (.int (0 : Int32))]) := V14
  have N14 := Fr.snoc X14 N13 G2
  refine own_st (fun zw zk => st14 zw zk) ?_
  have Z14 : n0 ≤ h14.size := Nat.le_trans Z13 (Keep.of_wr W14).1
  refine own_st (fun zw zk => XS.aload X14.here hx rfl (hb hby at_142) rfl rfl zk) ?_
  refine own_st (fun zw zk => XS.bipush X14.here hx rfl (hb hby at_144) zk) ?_
  refine own_st (fun zw zk => XS.lloadN X14.here hx rfl (hb hby at_146) rfl zk) ?_
  refine own_st (fun zw zk => XS.bipush X14.here hx rfl (hb hby at_147) zk) ?_
  show own_Go p e below G (T14.setTop (mkF m 149 #[.val (.long q0), .second, .val (.long q1), .second, .val (.int p2), .val (.int p3), .val (.ref b2), .unset, .unset, .unset, .unset] [(.int (32 : Int32)), (.long q1), (.int (12 : Int32)), (.ref b2)]))
  refine own_st (fun zw zk => XS.lushr X14.here hx rfl (hb hby at_149) rfl zk) ?_
  refine own_st (fun zw zk => X14.ldc2Long hx hown (mvT hZ (hw _ (List.mem_of_getElem? (i := 1) rfl))) (g := (mkF m 150 #[.val (.long q0), .second, .val (.long q1), .second, .val (.int p2), .val (.int p3), .val (.ref b2), .unset, .unset, .unset, .unset] [(.long ((q1.toUInt64 >>> ((32 : Int32) &&& 0x3f).toInt64.toUInt64).toInt64)), (.int (12 : Int32)), (.ref b2)])) rfl (hb hby at_150) _ zk) ?_
  refine own_st (fun zw zk => XS.lxor X14.here hx rfl (hb hby at_153) rfl zk) ?_
  refine own_st (fun zw zk => XS.l2i X14.here hx rfl (hb hby at_154) rfl zk) ?_
  refine own_st (fun zw zk => XS.i2b X14.here hx rfl (hb hby at_155) rfl zk) ?_
  obtain ⟨T15, h15, X15, e15, W15, V15, st15⟩ := own_bst X14 hx hZ e14 Vb2_14 (j := (12 : Int32)) (12) (by decide) (by decide) (Nat.le_of_ble_eq_true rfl) (g := (mkF m 156 #[.val (.long q0), .second, .val (.long q1), .second, .val (.int p2), .val (.int p3), .val (.ref b2), .unset, .unset, .unset, .unset] [(.int (((((q1.toUInt64 >>> ((32 : Int32) &&& 0x3f).toInt64.toUInt64).toInt64) ^^^ (-1 : Int64)).toInt32).toInt8.toInt32)), (.int (12 : Int32)), (.ref b2)])) rfl rfl (hb hby at_156)
  have Vb2_15 : own_L Z h15 b2 .byte ([(.int (((q1.toInt32).toInt8.toInt32).toInt8.toInt32)), (.int (((((q1.toUInt64 >>> ((8 : Int32) &&& 0x3f).toInt64.toUInt64).toInt64).toInt32).toInt8.toInt32).toInt8.toInt32)), (.int (((((q1.toUInt64 >>> ((16 : Int32) &&& 0x3f).toInt64.toUInt64).toInt64).toInt32).toInt8.toInt32).toInt8.toInt32)), (.int (((((q1.toUInt64 >>> ((24 : Int32) &&& 0x3f).toInt64.toUInt64).toInt64).toInt32).toInt8.toInt32).toInt8.toInt32)), (.int (((((q1.toUInt64 >>> ((32 : Int32) &&& 0x3f).toInt64.toUInt64).toInt64).toInt32).toInt8.toInt32).toInt8.toInt32)), (.int (((((q1.toUInt64 >>> ((40 : Int32) &&& 0x3f).toInt64.toUInt64).toInt64).toInt32).toInt8.toInt32).toInt8.toInt32)), (.int (((((q1.toUInt64 >>> ((48 : Int32) &&& 0x3f).toInt64.toUInt64).toInt64).toInt32).toInt8.toInt32).toInt8.toInt32)), (.int (((((q1.toUInt64 >>> ((56 : Int32) &&& 0x3f).toInt64.toUInt64).toInt64).toInt32).toInt8.toInt32).toInt8.toInt32)), (.int ((((q1 ^^^ (-1 : Int64)).toInt32).toInt8.toInt32).toInt8.toInt32)), (.int ((((((q1.toUInt64 >>> ((8 : Int32) &&& 0x3f).toInt64.toUInt64).toInt64) ^^^ (-1 : Int64)).toInt32).toInt8.toInt32).toInt8.toInt32)), (.int ((((((q1.toUInt64 >>> ((16 : Int32) &&& 0x3f).toInt64.toUInt64).toInt64) ^^^ (-1 : Int64)).toInt32).toInt8.toInt32).toInt8.toInt32)), (.int ((((((q1.toUInt64 >>> ((24 : Int32) &&& 0x3f).toInt64.toUInt64).toInt64) ^^^ (-1 : Int64)).toInt32).toInt8.toInt32).toInt8.toInt32)), (.int ((((((q1.toUInt64 >>> ((32 : Int32) &&& 0x3f).toInt64.toUInt64).toInt64) ^^^ (-1 : Int64)).toInt32).toInt8.toInt32).toInt8.toInt32)), (.int (0 : Int32)), (.int (0 : Int32)), (.int (0 : Int32))]) := V15
  have N15 := Fr.snoc X15 N14 G2
  refine own_st (fun zw zk => st15 zw zk) ?_
  have Z15 : n0 ≤ h15.size := Nat.le_trans Z14 (Keep.of_wr W15).1
  refine own_st (fun zw zk => XS.aload X15.here hx rfl (hb hby at_157) rfl rfl zk) ?_
  refine own_st (fun zw zk => XS.bipush X15.here hx rfl (hb hby at_159) zk) ?_
  show own_Go p e below G (T15.setTop (mkF m 161 #[.val (.long q0), .second, .val (.long q1), .second, .val (.int p2), .val (.int p3), .val (.ref b2), .unset, .unset, .unset, .unset] [(.int (13 : Int32)), (.ref b2)]))
  refine own_st (fun zw zk => XS.lloadN X15.here hx rfl (hb hby at_161) rfl zk) ?_
  refine own_st (fun zw zk => XS.bipush X15.here hx rfl (hb hby at_162) zk) ?_
  refine own_st (fun zw zk => XS.lushr X15.here hx rfl (hb hby at_164) rfl zk) ?_
  refine own_st (fun zw zk => X15.ldc2Long hx hown (mvT hZ (hw _ (List.mem_of_getElem? (i := 1) rfl))) (g := (mkF m 165 #[.val (.long q0), .second, .val (.long q1), .second, .val (.int p2), .val (.int p3), .val (.ref b2), .unset, .unset, .unset, .unset] [(.long ((q1.toUInt64 >>> ((40 : Int32) &&& 0x3f).toInt64.toUInt64).toInt64)), (.int (13 : Int32)), (.ref b2)])) rfl (hb hby at_165) _ zk) ?_
  refine own_st (fun zw zk => XS.lxor X15.here hx rfl (hb hby at_168) rfl zk) ?_
  refine own_st (fun zw zk => XS.l2i X15.here hx rfl (hb hby at_169) rfl zk) ?_
  refine own_st (fun zw zk => XS.i2b X15.here hx rfl (hb hby at_170) rfl zk) ?_
  obtain ⟨T16, h16, X16, e16, W16, V16, st16⟩ := own_bst X15 hx hZ e15 Vb2_15 (j := (13 : Int32)) (13) (by decide) (by decide) (Nat.le_of_ble_eq_true rfl) (g := (mkF m 171 #[.val (.long q0), .second, .val (.long q1), .second, .val (.int p2), .val (.int p3), .val (.ref b2), .unset, .unset, .unset, .unset] [(.int (((((q1.toUInt64 >>> ((40 : Int32) &&& 0x3f).toInt64.toUInt64).toInt64) ^^^ (-1 : Int64)).toInt32).toInt8.toInt32)), (.int (13 : Int32)), (.ref b2)])) rfl rfl (hb hby at_171)
  have Vb2_16 : own_L Z h16 b2 .byte ([(.int (((q1.toInt32).toInt8.toInt32).toInt8.toInt32)), (.int (((((q1.toUInt64 >>> ((8 : Int32) &&& 0x3f).toInt64.toUInt64).toInt64).toInt32).toInt8.toInt32).toInt8.toInt32)), (.int (((((q1.toUInt64 >>> ((16 : Int32) &&& 0x3f).toInt64.toUInt64).toInt64).toInt32).toInt8.toInt32).toInt8.toInt32)), (.int (((((q1.toUInt64 >>> ((24 : Int32) &&& 0x3f).toInt64.toUInt64).toInt64).toInt32).toInt8.toInt32).toInt8.toInt32)), (.int (((((q1.toUInt64 >>> ((32 : Int32) &&& 0x3f).toInt64.toUInt64).toInt64).toInt32).toInt8.toInt32).toInt8.toInt32)), (.int (((((q1.toUInt64 >>> ((40 : Int32) &&& 0x3f).toInt64.toUInt64).toInt64).toInt32).toInt8.toInt32).toInt8.toInt32)), (.int (((((q1.toUInt64 >>> ((48 : Int32) &&& 0x3f).toInt64.toUInt64).toInt64).toInt32).toInt8.toInt32).toInt8.toInt32)), (.int (((((q1.toUInt64 >>> ((56 : Int32) &&& 0x3f).toInt64.toUInt64).toInt64).toInt32).toInt8.toInt32).toInt8.toInt32)), (.int ((((q1 ^^^ (-1 : Int64)).toInt32).toInt8.toInt32).toInt8.toInt32)), (.int ((((((q1.toUInt64 >>> ((8 : Int32) &&& 0x3f).toInt64.toUInt64).toInt64) ^^^ (-1 : Int64)).toInt32).toInt8.toInt32).toInt8.toInt32)), (.int ((((((q1.toUInt64 >>> ((16 : Int32) &&& 0x3f).toInt64.toUInt64).toInt64) ^^^ (-1 : Int64)).toInt32).toInt8.toInt32).toInt8.toInt32)), (.int ((((((q1.toUInt64 >>> ((24 : Int32) &&& 0x3f).toInt64.toUInt64).toInt64) ^^^ (-1 : Int64)).toInt32).toInt8.toInt32).toInt8.toInt32)), (.int ((((((q1.toUInt64 >>> ((32 : Int32) &&& 0x3f).toInt64.toUInt64).toInt64) ^^^ (-1 : Int64)).toInt32).toInt8.toInt32).toInt8.toInt32)), (.int ((((((q1.toUInt64 >>> ((40 : Int32) &&& 0x3f).toInt64.toUInt64).toInt64) ^^^ (-1 : Int64)).toInt32).toInt8.toInt32).toInt8.toInt32)), (.int (0 : Int32)), (.int (0 : Int32))]) := V16
  have N16 := Fr.snoc X16 N15 G2
  refine own_st (fun zw zk => st16 zw zk) ?_
  have Z16 : n0 ≤ h16.size := Nat.le_trans Z15 (Keep.of_wr W16).1
  show own_Go p e below G (T16.setTop (mkF m 172 #[.val (.long q0), .second, .val (.long q1), .second, .val (.int p2), .val (.int p3), .val (.ref b2), .unset, .unset, .unset, .unset] []))
  refine own_st (fun zw zk => XS.aload X16.here hx rfl (hb hby at_172) rfl rfl zk) ?_
  refine own_st (fun zw zk => XS.bipush X16.here hx rfl (hb hby at_174) zk) ?_
  refine own_st (fun zw zk => XS.lloadN X16.here hx rfl (hb hby at_176) rfl zk) ?_
  refine own_st (fun zw zk => XS.bipush X16.here hx rfl (hb hby at_177) zk) ?_
  refine own_st (fun zw zk => XS.lushr X16.here hx rfl (hb hby at_179) rfl zk) ?_
  refine own_st (fun zw zk => X16.ldc2Long hx hown (mvT hZ (hw _ (List.mem_of_getElem? (i := 1) rfl))) (g := (mkF m 180 #[.val (.long q0), .second, .val (.long q1), .second, .val (.int p2), .val (.int p3), .val (.ref b2), .unset, .unset, .unset, .unset] [(.long ((q1.toUInt64 >>> ((48 : Int32) &&& 0x3f).toInt64.toUInt64).toInt64)), (.int (14 : Int32)), (.ref b2)])) rfl (hb hby at_180) _ zk) ?_
  refine own_st (fun zw zk => XS.lxor X16.here hx rfl (hb hby at_183) rfl zk) ?_
  refine own_st (fun zw zk => XS.l2i X16.here hx rfl (hb hby at_184) rfl zk) ?_
  show own_Go p e below G (T16.setTop (mkF m 185 #[.val (.long q0), .second, .val (.long q1), .second, .val (.int p2), .val (.int p3), .val (.ref b2), .unset, .unset, .unset, .unset] [(.int ((((q1.toUInt64 >>> ((48 : Int32) &&& 0x3f).toInt64.toUInt64).toInt64) ^^^ (-1 : Int64)).toInt32)), (.int (14 : Int32)), (.ref b2)]))
  refine own_st (fun zw zk => XS.i2b X16.here hx rfl (hb hby at_185) rfl zk) ?_
  obtain ⟨T17, h17, X17, e17, W17, V17, st17⟩ := own_bst X16 hx hZ e16 Vb2_16 (j := (14 : Int32)) (14) (by decide) (by decide) (Nat.le_of_ble_eq_true rfl) (g := (mkF m 186 #[.val (.long q0), .second, .val (.long q1), .second, .val (.int p2), .val (.int p3), .val (.ref b2), .unset, .unset, .unset, .unset] [(.int (((((q1.toUInt64 >>> ((48 : Int32) &&& 0x3f).toInt64.toUInt64).toInt64) ^^^ (-1 : Int64)).toInt32).toInt8.toInt32)), (.int (14 : Int32)), (.ref b2)])) rfl rfl (hb hby at_186)
  have Vb2_17 : own_L Z h17 b2 .byte ([(.int (((q1.toInt32).toInt8.toInt32).toInt8.toInt32)), (.int (((((q1.toUInt64 >>> ((8 : Int32) &&& 0x3f).toInt64.toUInt64).toInt64).toInt32).toInt8.toInt32).toInt8.toInt32)), (.int (((((q1.toUInt64 >>> ((16 : Int32) &&& 0x3f).toInt64.toUInt64).toInt64).toInt32).toInt8.toInt32).toInt8.toInt32)), (.int (((((q1.toUInt64 >>> ((24 : Int32) &&& 0x3f).toInt64.toUInt64).toInt64).toInt32).toInt8.toInt32).toInt8.toInt32)), (.int (((((q1.toUInt64 >>> ((32 : Int32) &&& 0x3f).toInt64.toUInt64).toInt64).toInt32).toInt8.toInt32).toInt8.toInt32)), (.int (((((q1.toUInt64 >>> ((40 : Int32) &&& 0x3f).toInt64.toUInt64).toInt64).toInt32).toInt8.toInt32).toInt8.toInt32)), (.int (((((q1.toUInt64 >>> ((48 : Int32) &&& 0x3f).toInt64.toUInt64).toInt64).toInt32).toInt8.toInt32).toInt8.toInt32)), (.int (((((q1.toUInt64 >>> ((56 : Int32) &&& 0x3f).toInt64.toUInt64).toInt64).toInt32).toInt8.toInt32).toInt8.toInt32)), (.int ((((q1 ^^^ (-1 : Int64)).toInt32).toInt8.toInt32).toInt8.toInt32)), (.int ((((((q1.toUInt64 >>> ((8 : Int32) &&& 0x3f).toInt64.toUInt64).toInt64) ^^^ (-1 : Int64)).toInt32).toInt8.toInt32).toInt8.toInt32)), (.int ((((((q1.toUInt64 >>> ((16 : Int32) &&& 0x3f).toInt64.toUInt64).toInt64) ^^^ (-1 : Int64)).toInt32).toInt8.toInt32).toInt8.toInt32)), (.int ((((((q1.toUInt64 >>> ((24 : Int32) &&& 0x3f).toInt64.toUInt64).toInt64) ^^^ (-1 : Int64)).toInt32).toInt8.toInt32).toInt8.toInt32)), (.int ((((((q1.toUInt64 >>> ((32 : Int32) &&& 0x3f).toInt64.toUInt64).toInt64) ^^^ (-1 : Int64)).toInt32).toInt8.toInt32).toInt8.toInt32)), (.int ((((((q1.toUInt64 >>> ((40 : Int32) &&& 0x3f).toInt64.toUInt64).toInt64) ^^^ (-1 : Int64)).toInt32).toInt8.toInt32).toInt8.toInt32)), (.int ((((((q1.toUInt64 >>> ((48 : Int32) &&& 0x3f).toInt64.toUInt64).toInt64) ^^^ (-1 : Int64)).toInt32).toInt8.toInt32).toInt8.toInt32)), (.int (0 : Int32))]) := V17
  have N17 := Fr.snoc X17 N16 G2
  refine own_st (fun zw zk => st17 zw zk) ?_
  have Z17 : n0 ≤ h17.size := Nat.le_trans Z16 (Keep.of_wr W17).1
  refine own_st (fun zw zk => XS.aload X17.here hx rfl (hb hby at_187) rfl rfl zk) ?_
  refine own_st (fun zw zk => XS.bipush X17.here hx rfl (hb hby at_189) zk) ?_
  refine own_st (fun zw zk => XS.lloadN X17.here hx rfl (hb hby at_191) rfl zk) ?_
  refine own_st (fun zw zk => XS.bipush X17.here hx rfl (hb hby at_192) zk) ?_
  refine own_st (fun zw zk => XS.lushr X17.here hx rfl (hb hby at_194) rfl zk) ?_
  refine own_st (fun zw zk => X17.ldc2Long hx hown (mvT hZ (hw _ (List.mem_of_getElem? (i := 1) rfl))) (g := (mkF m 195 #[.val (.long q0), .second, .val (.long q1), .second, .val (.int p2), .val (.int p3), .val (.ref b2), .unset, .unset, .unset, .unset] [(.long ((q1.toUInt64 >>> ((56 : Int32) &&& 0x3f).toInt64.toUInt64).toInt64)), (.int (15 : Int32)), (.ref b2)])) rfl (hb hby at_195) _ zk) ?_
  show own_Go p e below G (T17.setTop (mkF m 198 #[.val (.long q0), .second, .val (.long q1), .second, .val (.int p2), .val (.int p3), .val (.ref b2), .unset, .unset, .unset, .unset] [(.long (-1 : Int64)), (.long ((q1.toUInt64 >>> ((56 : Int32) &&& 0x3f).toInt64.toUInt64).toInt64)), (.int (15 : Int32)), (.ref b2)]))
  refine own_st (fun zw zk => XS.lxor X17.here hx rfl (hb hby at_198) rfl zk) ?_
  refine own_st (fun zw zk => XS.l2i X17.here hx rfl (hb hby at_199) rfl zk) ?_
  refine own_st (fun zw zk => XS.i2b X17.here hx rfl (hb hby at_200) rfl zk) ?_
  obtain ⟨T18, h18, X18, e18, W18, V18, st18⟩ := own_bst X17 hx hZ e17 Vb2_17 (j := (15 : Int32)) (15) (by decide) (by decide) (Nat.le_of_ble_eq_true rfl) (g := (mkF m 201 #[.val (.long q0), .second, .val (.long q1), .second, .val (.int p2), .val (.int p3), .val (.ref b2), .unset, .unset, .unset, .unset] [(.int (((((q1.toUInt64 >>> ((56 : Int32) &&& 0x3f).toInt64.toUInt64).toInt64) ^^^ (-1 : Int64)).toInt32).toInt8.toInt32)), (.int (15 : Int32)), (.ref b2)])) rfl rfl (hb hby at_201)
  have Vb2_18 : own_L Z h18 b2 .byte ([(.int (((q1.toInt32).toInt8.toInt32).toInt8.toInt32)), (.int (((((q1.toUInt64 >>> ((8 : Int32) &&& 0x3f).toInt64.toUInt64).toInt64).toInt32).toInt8.toInt32).toInt8.toInt32)), (.int (((((q1.toUInt64 >>> ((16 : Int32) &&& 0x3f).toInt64.toUInt64).toInt64).toInt32).toInt8.toInt32).toInt8.toInt32)), (.int (((((q1.toUInt64 >>> ((24 : Int32) &&& 0x3f).toInt64.toUInt64).toInt64).toInt32).toInt8.toInt32).toInt8.toInt32)), (.int (((((q1.toUInt64 >>> ((32 : Int32) &&& 0x3f).toInt64.toUInt64).toInt64).toInt32).toInt8.toInt32).toInt8.toInt32)), (.int (((((q1.toUInt64 >>> ((40 : Int32) &&& 0x3f).toInt64.toUInt64).toInt64).toInt32).toInt8.toInt32).toInt8.toInt32)), (.int (((((q1.toUInt64 >>> ((48 : Int32) &&& 0x3f).toInt64.toUInt64).toInt64).toInt32).toInt8.toInt32).toInt8.toInt32)), (.int (((((q1.toUInt64 >>> ((56 : Int32) &&& 0x3f).toInt64.toUInt64).toInt64).toInt32).toInt8.toInt32).toInt8.toInt32)), (.int ((((q1 ^^^ (-1 : Int64)).toInt32).toInt8.toInt32).toInt8.toInt32)), (.int ((((((q1.toUInt64 >>> ((8 : Int32) &&& 0x3f).toInt64.toUInt64).toInt64) ^^^ (-1 : Int64)).toInt32).toInt8.toInt32).toInt8.toInt32)), (.int ((((((q1.toUInt64 >>> ((16 : Int32) &&& 0x3f).toInt64.toUInt64).toInt64) ^^^ (-1 : Int64)).toInt32).toInt8.toInt32).toInt8.toInt32)), (.int ((((((q1.toUInt64 >>> ((24 : Int32) &&& 0x3f).toInt64.toUInt64).toInt64) ^^^ (-1 : Int64)).toInt32).toInt8.toInt32).toInt8.toInt32)), (.int ((((((q1.toUInt64 >>> ((32 : Int32) &&& 0x3f).toInt64.toUInt64).toInt64) ^^^ (-1 : Int64)).toInt32).toInt8.toInt32).toInt8.toInt32)), (.int ((((((q1.toUInt64 >>> ((40 : Int32) &&& 0x3f).toInt64.toUInt64).toInt64) ^^^ (-1 : Int64)).toInt32).toInt8.toInt32).toInt8.toInt32)), (.int ((((((q1.toUInt64 >>> ((48 : Int32) &&& 0x3f).toInt64.toUInt64).toInt64) ^^^ (-1 : Int64)).toInt32).toInt8.toInt32).toInt8.toInt32)), (.int ((((((q1.toUInt64 >>> ((56 : Int32) &&& 0x3f).toInt64.toUInt64).toInt64) ^^^ (-1 : Int64)).toInt32).toInt8.toInt32).toInt8.toInt32))]) := V18
  have N18 := Fr.snoc X18 N17 G2
  refine own_st (fun zw zk => st18 zw zk) ?_
  have Z18 : n0 ≤ h18.size := Nat.le_trans Z17 (Keep.of_wr W18).1
  obtain ⟨vs0, V0, hv0⟩ : ∃ vs : List Value, own_L Z h18 b2 .byte vs ∧ vs.length = 16 := ⟨_, Vb2_18, rfl⟩
  refine own_st (fun zw zk => XS.iload X18.here hx rfl (hb hby at_202) rfl zk) ?_
  refine own_st (fun zw zk => XS.bipush X18.here hx rfl (hb hby at_204) zk) ?_
  refine own_st (fun zw zk => XS.iand X18.here hx rfl (hb hby at_206) rfl zk) ?_
  refine own_st (fun zw zk => XS.istore X18.here hx rfl (hb hby at_207) rfl rfl zk) ?_
  show own_Go p e below G (T18.setTop (mkF m 209 #[.val (.long q0), .second, .val (.long q1), .second, .val (.int p2), .val (.int p3), .val (.ref b2), .val (.int (p2 &&& (7 : Int32))), .unset, .unset, .unset] []))
  generalize hsn : (p2 &&& (7 : Int32)) = sn
  obtain ⟨ns, hns, hns7⟩ : ∃ ns : Nat, sn.toInt = ns ∧ ns ≤ 7 := hsn ▸ own_seven p2
  refine own_st (fun zw zk => XS.iload X18.here hx rfl (hb hby at_209) rfl zk) ?_
  refine own_st (fun zw zk => X18.ldcInt hx hown (mvT hZ (hw _ (List.mem_of_getElem? (i := 2) rfl))) (g := (mkF m 211 #[.val (.long q0), .second, .val (.long q1), .second, .val (.int p2), .val (.int p3), .val (.ref b2), .val (.int sn), .unset, .unset, .unset] [(.int p3)])) rfl (hb hby at_211) _ zk) ?_
  refine own_st (fun zw zk => XS.iand X18.here hx rfl (hb hby at_213) rfl zk) ?_
  refine own_st (fun zw zk => XS.bipush X18.here hx rfl (hb hby at_214) zk) ?_
  refine own_st (fun zw zk => iremM X18 hx rfl (hb hby at_216) rfl (by decide) zk) ?_
  refine own_st (fun zw zk => XS.istore X18.here hx rfl (hb hby at_217) rfl rfl zk) ?_
  show own_Go p e below G (T18.setTop (mkF m 219 #[.val (.long q0), .second, .val (.long q1), .second, .val (.int p2), .val (.int p3), .val (.ref b2), .val (.int sn), .val (.int ((p3 &&& (2147483647 : Int32)) % (10 : Int32))), .unset, .unset] []))
  generalize hln : ((p3 &&& (2147483647 : Int32)) % (10 : Int32)) = ln
  refine own_st (fun zw zk => XS.aload X18.here hx rfl (hb hby at_219) rfl rfl zk) ?_
  refine own_st (fun zw zk => XS.iload X18.here hx rfl (hb hby at_221) rfl zk) ?_
  refine own_st (fun zw zk => XS.lloadN X18.here hx rfl (hb hby at_223) rfl zk) ?_
  refine own_st (fun zw zk => XS.bipush X18.here hx rfl (hb hby at_224) zk) ?_
  refine own_st (fun zw zk => XS.lushr X18.here hx rfl (hb hby at_226) rfl zk) ?_
  refine own_st (fun zw zk => XS.l2i X18.here hx rfl (hb hby at_227) rfl zk) ?_
  refine own_st (fun zw zk => XS.i2b X18.here hx rfl (hb hby at_228) rfl zk) ?_
  obtain ⟨T19, h19, X19, e19, W19, V19, st19⟩ := own_bst X18 hx hZ e18 V0 (j := sn) (ns) (own_nn hns) (own_nat hns) (by rw [hv0]; omega) (g := (mkF m 229 #[.val (.long q0), .second, .val (.long q1), .second, .val (.int p2), .val (.int p3), .val (.ref b2), .val (.int sn), .val (.int ln), .unset, .unset] [(.int ((((q0.toUInt64 >>> ((56 : Int32) &&& 0x3f).toInt64.toUInt64).toInt64).toInt32).toInt8.toInt32)), (.int sn), (.ref b2)])) rfl rfl (hb hby at_229)
  have Vb2_19 : own_L Z h19 b2 .byte ((vs0.set (ns) (.int (((((q0.toUInt64 >>> ((56 : Int32) &&& 0x3f).toInt64.toUInt64).toInt64).toInt32).toInt8.toInt32).toInt8.toInt32)))) := V19
  have N19 := Fr.snoc X19 N18 G2
  refine own_st (fun zw zk => st19 zw zk) ?_
  have Z19 : n0 ≤ h19.size := Nat.le_trans Z18 (Keep.of_wr W19).1
  show own_Go p e below G (T19.setTop (mkF m 230 #[.val (.long q0), .second, .val (.long q1), .second, .val (.int p2), .val (.int p3), .val (.ref b2), .val (.int sn), .val (.int ln), .unset, .unset] []))
  refine own_st (fun zw zk => XS.aload X19.here hx rfl (hb hby at_230) rfl rfl zk) ?_
  refine own_st (fun zw zk => XS.iload X19.here hx rfl (hb hby at_232) rfl zk) ?_
  refine own_st (fun zw zk => XS.iconst X19.here hx rfl (hb hby at_234) zk) ?_
  refine own_st (fun zw zk => XS.iadd X19.here hx rfl (hb hby at_235) rfl zk) ?_
  refine own_st (fun zw zk => XS.lloadN X19.here hx rfl (hb hby at_236) rfl zk) ?_
  refine own_st (fun zw zk => XS.bipush X19.here hx rfl (hb hby at_237) zk) ?_
  refine own_st (fun zw zk => XS.lushr X19.here hx rfl (hb hby at_239) rfl zk) ?_
  refine own_st (fun zw zk => XS.l2i X19.here hx rfl (hb hby at_240) rfl zk) ?_
  show own_Go p e below G (T19.setTop (mkF m 241 #[.val (.long q0), .second, .val (.long q1), .second, .val (.int p2), .val (.int p3), .val (.ref b2), .val (.int sn), .val (.int ln), .unset, .unset] [(.int (((q0.toUInt64 >>> ((48 : Int32) &&& 0x3f).toInt64.toUInt64).toInt64).toInt32)), (.int (sn + (1 : Int32))), (.ref b2)]))
  refine own_st (fun zw zk => XS.i2b X19.here hx rfl (hb hby at_241) rfl zk) ?_
  obtain ⟨T20, h20, X20, e20, W20, V20, st20⟩ := own_bst X19 hx hZ e19 Vb2_19 (j := (sn + (1 : Int32))) (ns + 1) (own_nn (own_addk 1 (by decide) (by decide) hns hns7)) (own_nat (own_addk 1 (by decide) (by decide) hns hns7)) (by simp only [List.length_set]; omega) (g := (mkF m 242 #[.val (.long q0), .second, .val (.long q1), .second, .val (.int p2), .val (.int p3), .val (.ref b2), .val (.int sn), .val (.int ln), .unset, .unset] [(.int ((((q0.toUInt64 >>> ((48 : Int32) &&& 0x3f).toInt64.toUInt64).toInt64).toInt32).toInt8.toInt32)), (.int (sn + (1 : Int32))), (.ref b2)])) rfl rfl (hb hby at_242)
  have Vb2_20 : own_L Z h20 b2 .byte (((vs0.set (ns) (.int (((((q0.toUInt64 >>> ((56 : Int32) &&& 0x3f).toInt64.toUInt64).toInt64).toInt32).toInt8.toInt32).toInt8.toInt32))).set (ns + 1) (.int (((((q0.toUInt64 >>> ((48 : Int32) &&& 0x3f).toInt64.toUInt64).toInt64).toInt32).toInt8.toInt32).toInt8.toInt32)))) := V20
  have N20 := Fr.snoc X20 N19 G2
  refine own_st (fun zw zk => st20 zw zk) ?_
  have Z20 : n0 ≤ h20.size := Nat.le_trans Z19 (Keep.of_wr W20).1
  refine own_st (fun zw zk => XS.aload X20.here hx rfl (hb hby at_243) rfl rfl zk) ?_
  refine own_st (fun zw zk => XS.iload X20.here hx rfl (hb hby at_245) rfl zk) ?_
  refine own_st (fun zw zk => XS.iconst X20.here hx rfl (hb hby at_247) zk) ?_
  refine own_st (fun zw zk => XS.iadd X20.here hx rfl (hb hby at_248) rfl zk) ?_
  refine own_st (fun zw zk => XS.lloadN X20.here hx rfl (hb hby at_249) rfl zk) ?_
  refine own_st (fun zw zk => XS.bipush X20.here hx rfl (hb hby at_250) zk) ?_
  show own_Go p e below G (T20.setTop (mkF m 252 #[.val (.long q0), .second, .val (.long q1), .second, .val (.int p2), .val (.int p3), .val (.ref b2), .val (.int sn), .val (.int ln), .unset, .unset] [(.int (40 : Int32)), (.long q0), (.int (sn + (2 : Int32))), (.ref b2)]))
  refine own_st (fun zw zk => XS.lushr X20.here hx rfl (hb hby at_252) rfl zk) ?_
  refine own_st (fun zw zk => XS.l2i X20.here hx rfl (hb hby at_253) rfl zk) ?_
  refine own_st (fun zw zk => XS.i2b X20.here hx rfl (hb hby at_254) rfl zk) ?_
  obtain ⟨T21, h21, X21, e21, W21, V21, st21⟩ := own_bst X20 hx hZ e20 Vb2_20 (j := (sn + (2 : Int32))) (ns + 2) (own_nn (own_addk 2 (by decide) (by decide) hns hns7)) (own_nat (own_addk 2 (by decide) (by decide) hns hns7)) (by simp only [List.length_set]; omega) (g := (mkF m 255 #[.val (.long q0), .second, .val (.long q1), .second, .val (.int p2), .val (.int p3), .val (.ref b2), .val (.int sn), .val (.int ln), .unset, .unset] [(.int ((((q0.toUInt64 >>> ((40 : Int32) &&& 0x3f).toInt64.toUInt64).toInt64).toInt32).toInt8.toInt32)), (.int (sn + (2 : Int32))), (.ref b2)])) rfl rfl (hb hby at_255)
  have Vb2_21 : own_L Z h21 b2 .byte ((((vs0.set (ns) (.int (((((q0.toUInt64 >>> ((56 : Int32) &&& 0x3f).toInt64.toUInt64).toInt64).toInt32).toInt8.toInt32).toInt8.toInt32))).set (ns + 1) (.int (((((q0.toUInt64 >>> ((48 : Int32) &&& 0x3f).toInt64.toUInt64).toInt64).toInt32).toInt8.toInt32).toInt8.toInt32))).set (ns + 2) (.int (((((q0.toUInt64 >>> ((40 : Int32) &&& 0x3f).toInt64.toUInt64).toInt64).toInt32).toInt8.toInt32).toInt8.toInt32)))) := V21
  have N21 := Fr.snoc X21 N20 G2
  refine own_st (fun zw zk => st21 zw zk) ?_
  have Z21 : n0 ≤ h21.size := Nat.le_trans Z20 (Keep.of_wr W21).1
  refine own_st (fun zw zk => XS.aload X21.here hx rfl (hb hby at_256) rfl rfl zk) ?_
  refine own_st (fun zw zk => XS.iload X21.here hx rfl (hb hby at_258) rfl zk) ?_
  refine own_st (fun zw zk => XS.iconst X21.here hx rfl (hb hby at_260) zk) ?_
  refine own_st (fun zw zk => XS.iadd X21.here hx rfl (hb hby at_261) rfl zk) ?_
  show own_Go p e below G (T21.setTop (mkF m 262 #[.val (.long q0), .second, .val (.long q1), .second, .val (.int p2), .val (.int p3), .val (.ref b2), .val (.int sn), .val (.int ln), .unset, .unset] [(.int (sn + (3 : Int32))), (.ref b2)]))
  refine own_st (fun zw zk => XS.lloadN X21.here hx rfl (hb hby at_262) rfl zk) ?_
  refine own_st (fun zw zk => XS.bipush X21.here hx rfl (hb hby at_263) zk) ?_
  refine own_st (fun zw zk => XS.lushr X21.here hx rfl (hb hby at_265) rfl zk) ?_
  refine own_st (fun zw zk => XS.l2i X21.here hx rfl (hb hby at_266) rfl zk) ?_
  refine own_st (fun zw zk => XS.i2b X21.here hx rfl (hb hby at_267) rfl zk) ?_
  obtain ⟨T22, h22, X22, e22, W22, V22, st22⟩ := own_bst X21 hx hZ e21 Vb2_21 (j := (sn + (3 : Int32))) (ns + 3) (own_nn (own_addk 3 (by decide) (by decide) hns hns7)) (own_nat (own_addk 3 (by decide) (by decide) hns hns7)) (by simp only [List.length_set]; omega) (g := (mkF m 268 #[.val (.long q0), .second, .val (.long q1), .second, .val (.int p2), .val (.int p3), .val (.ref b2), .val (.int sn), .val (.int ln), .unset, .unset] [(.int ((((q0.toUInt64 >>> ((32 : Int32) &&& 0x3f).toInt64.toUInt64).toInt64).toInt32).toInt8.toInt32)), (.int (sn + (3 : Int32))), (.ref b2)])) rfl rfl (hb hby at_268)
  have Vb2_22 : own_L Z h22 b2 .byte (((((vs0.set (ns) (.int (((((q0.toUInt64 >>> ((56 : Int32) &&& 0x3f).toInt64.toUInt64).toInt64).toInt32).toInt8.toInt32).toInt8.toInt32))).set (ns + 1) (.int (((((q0.toUInt64 >>> ((48 : Int32) &&& 0x3f).toInt64.toUInt64).toInt64).toInt32).toInt8.toInt32).toInt8.toInt32))).set (ns + 2) (.int (((((q0.toUInt64 >>> ((40 : Int32) &&& 0x3f).toInt64.toUInt64).toInt64).toInt32).toInt8.toInt32).toInt8.toInt32))).set (ns + 3) (.int (((((q0.toUInt64 >>> ((32 : Int32) &&& 0x3f).toInt64.toUInt64).toInt64).toInt32).toInt8.toInt32).toInt8.toInt32)))) := V22
  have N22 := Fr.snoc X22 N21 G2
  refine own_st (fun zw zk => st22 zw zk) ?_
  have Z22 : n0 ≤ h22.size := Nat.le_trans Z21 (Keep.of_wr W22).1
  refine own_st (fun zw zk => XS.aload X22.here hx rfl (hb hby at_269) rfl rfl zk) ?_
  refine own_st (fun zw zk => XS.iload X22.here hx rfl (hb hby at_271) rfl zk) ?_
  show own_Go p e below G (T22.setTop (mkF m 273 #[.val (.long q0), .second, .val (.long q1), .second, .val (.int p2), .val (.int p3), .val (.ref b2), .val (.int sn), .val (.int ln), .unset, .unset] [(.int sn), (.ref b2)]))
  refine own_st (fun zw zk => XS.iconst X22.here hx rfl (hb hby at_273) zk) ?_
  refine own_st (fun zw zk => XS.iadd X22.here hx rfl (hb hby at_274) rfl zk) ?_
  refine own_st (fun zw zk => XS.lloadN X22.here hx rfl (hb hby at_275) rfl zk) ?_
  refine own_st (fun zw zk => XS.bipush X22.here hx rfl (hb hby at_276) zk) ?_
  refine own_st (fun zw zk => XS.lushr X22.here hx rfl (hb hby at_278) rfl zk) ?_
  refine own_st (fun zw zk => XS.l2i X22.here hx rfl (hb hby at_279) rfl zk) ?_
  refine own_st (fun zw zk => XS.i2b X22.here hx rfl (hb hby at_280) rfl zk) ?_
  obtain ⟨T23, h23, X23, e23, W23, V23, st23⟩ := own_bst X22 hx hZ e22 Vb2_22 (j := (sn + (4 : Int32))) (ns + 4) (own_nn (own_addk 4 (by decide) (by decide) hns hns7)) (own_nat (own_addk 4 (by decide) (by decide) hns hns7)) (by simp only [List.length_set]; omega) (g := (mkF m 281 #[.val (.long q0), .second, .val (.long q1), .second, .val (.int p2), .val (.int p3), .val (.ref b2), .val (.int sn), .val (.int ln), .unset, .unset] [(.int ((((q0.toUInt64 >>> ((24 : Int32) &&& 0x3f).toInt64.toUInt64).toInt64).toInt32).toInt8.toInt32)), (.int (sn + (4 : Int32))), (.ref b2)])) rfl rfl (hb hby at_281)
  have Vb2_23 : own_L Z h23 b2 .byte ((((((vs0.set (ns) (.int (((((q0.toUInt64 >>> ((56 : Int32) &&& 0x3f).toInt64.toUInt64).toInt64).toInt32).toInt8.toInt32).toInt8.toInt32))).set (ns + 1) (.int (((((q0.toUInt64 >>> ((48 : Int32) &&& 0x3f).toInt64.toUInt64).toInt64).toInt32).toInt8.toInt32).toInt8.toInt32))).set (ns + 2) (.int (((((q0.toUInt64 >>> ((40 : Int32) &&& 0x3f).toInt64.toUInt64).toInt64).toInt32).toInt8.toInt32).toInt8.toInt32))).set (ns + 3) (.int (((((q0.toUInt64 >>> ((32 : Int32) &&& 0x3f).toInt64.toUInt64).toInt64).toInt32).toInt8.toInt32).toInt8.toInt32))).set (ns + 4) (.int (((((q0.toUInt64 >>> ((24 : Int32) &&& 0x3f).toInt64.toUInt64).toInt64).toInt32).toInt8.toInt32).toInt8.toInt32)))) := V23
  have N23 := Fr.snoc X23 N22 G2
  refine own_st (fun zw zk => st23 zw zk) ?_
  have Z23 : n0 ≤ h23.size := Nat.le_trans Z22 (Keep.of_wr W23).1
  show own_Go p e below G (T23.setTop (mkF m 282 #[.val (.long q0), .second, .val (.long q1), .second, .val (.int p2), .val (.int p3), .val (.ref b2), .val (.int sn), .val (.int ln), .unset, .unset] []))
  refine own_st (fun zw zk => XS.aload X23.here hx rfl (hb hby at_282) rfl rfl zk) ?_
  refine own_st (fun zw zk => XS.iload X23.here hx rfl (hb hby at_284) rfl zk) ?_
  refine own_st (fun zw zk => XS.iconst X23.here hx rfl (hb hby at_286) zk) ?_
  refine own_st (fun zw zk => XS.iadd X23.here hx rfl (hb hby at_287) rfl zk) ?_
  refine own_st (fun zw zk => XS.lloadN X23.here hx rfl (hb hby at_288) rfl zk) ?_
  refine own_st (fun zw zk => XS.bipush X23.here hx rfl (hb hby at_289) zk) ?_
  refine own_st (fun zw zk => XS.lushr X23.here hx rfl (hb hby at_291) rfl zk) ?_
  refine own_st (fun zw zk => XS.l2i X23.here hx rfl (hb hby at_292) rfl zk) ?_
  show own_Go p e below G (T23.setTop (mkF m 293 #[.val (.long q0), .second, .val (.long q1), .second, .val (.int p2), .val (.int p3), .val (.ref b2), .val (.int sn), .val (.int ln), .unset, .unset] [(.int (((q0.toUInt64 >>> ((16 : Int32) &&& 0x3f).toInt64.toUInt64).toInt64).toInt32)), (.int (sn + (5 : Int32))), (.ref b2)]))
  refine own_st (fun zw zk => XS.i2b X23.here hx rfl (hb hby at_293) rfl zk) ?_
  obtain ⟨T24, h24, X24, e24, W24, V24, st24⟩ := own_bst X23 hx hZ e23 Vb2_23 (j := (sn + (5 : Int32))) (ns + 5) (own_nn (own_addk 5 (by decide) (by decide) hns hns7)) (own_nat (own_addk 5 (by decide) (by decide) hns hns7)) (by simp only [List.length_set]; omega) (g := (mkF m 294 #[.val (.long q0), .second, .val (.long q1), .second, .val (.int p2), .val (.int p3), .val (.ref b2), .val (.int sn), .val (.int ln), .unset, .unset] [(.int ((((q0.toUInt64 >>> ((16 : Int32) &&& 0x3f).toInt64.toUInt64).toInt64).toInt32).toInt8.toInt32)), (.int (sn + (5 : Int32))), (.ref b2)])) rfl rfl (hb hby at_294)
  have Vb2_24 : own_L Z h24 b2 .byte (((((((vs0.set (ns) (.int (((((q0.toUInt64 >>> ((56 : Int32) &&& 0x3f).toInt64.toUInt64).toInt64).toInt32).toInt8.toInt32).toInt8.toInt32))).set (ns + 1) (.int (((((q0.toUInt64 >>> ((48 : Int32) &&& 0x3f).toInt64.toUInt64).toInt64).toInt32).toInt8.toInt32).toInt8.toInt32))).set (ns + 2) (.int (((((q0.toUInt64 >>> ((40 : Int32) &&& 0x3f).toInt64.toUInt64).toInt64).toInt32).toInt8.toInt32).toInt8.toInt32))).set (ns + 3) (.int (((((q0.toUInt64 >>> ((32 : Int32) &&& 0x3f).toInt64.toUInt64).toInt64).toInt32).toInt8.toInt32).toInt8.toInt32))).set (ns + 4) (.int (((((q0.toUInt64 >>> ((24 : Int32) &&& 0x3f).toInt64.toUInt64).toInt64).toInt32).toInt8.toInt32).toInt8.toInt32))).set (ns + 5) (.int (((((q0.toUInt64 >>> ((16 : Int32) &&& 0x3f).toInt64.toUInt64).toInt64).toInt32).toInt8.toInt32).toInt8.toInt32)))) := V24
  have N24 := Fr.snoc X24 N23 G2
  refine own_st (fun zw zk => st24 zw zk) ?_
  have Z24 : n0 ≤ h24.size := Nat.le_trans Z23 (Keep.of_wr W24).1
  refine own_st (fun zw zk => XS.aload X24.here hx rfl (hb hby at_295) rfl rfl zk) ?_
  refine own_st (fun zw zk => XS.iload X24.here hx rfl (hb hby at_297) rfl zk) ?_
  refine own_st (fun zw zk => XS.bipush X24.here hx rfl (hb hby at_299) zk) ?_
  refine own_st (fun zw zk => XS.iadd X24.here hx rfl (hb hby at_301) rfl zk) ?_
  refine own_st (fun zw zk => XS.lloadN X24.here hx rfl (hb hby at_302) rfl zk) ?_
  refine own_st (fun zw zk => XS.bipush X24.here hx rfl (hb hby at_303) zk) ?_
  show own_Go p e below G (T24.setTop (mkF m 305 #[.val (.long q0), .second, .val (.long q1), .second, .val (.int p2), .val (.int p3), .val (.ref b2), .val (.int sn), .val (.int ln), .unset, .unset] [(.int (8 : Int32)), (.long q0), (.int (sn + (6 : Int32))), (.ref b2)]))
  refine own_st (fun zw zk => XS.lushr X24.here hx rfl (hb hby at_305) rfl zk) ?_
  refine own_st (fun zw zk => XS.l2i X24.here hx rfl (hb hby at_306) rfl zk) ?_
  refine own_st (fun zw zk => XS.i2b X24.here hx rfl (hb hby at_307) rfl zk) ?_
  obtain ⟨T25, h25, X25, e25, W25, V25, st25⟩ := own_bst X24 hx hZ e24 Vb2_24 (j := (sn + (6 : Int32))) (ns + 6) (own_nn (own_addk 6 (by decide) (by decide) hns hns7)) (own_nat (own_addk 6 (by decide) (by decide) hns hns7)) (by simp only [List.length_set]; omega) (g := (mkF m 308 #[.val (.long q0), .second, .val (.long q1), .second, .val (.int p2), .val (.int p3), .val (.ref b2), .val (.int sn), .val (.int ln), .unset, .unset] [(.int ((((q0.toUInt64 >>> ((8 : Int32) &&& 0x3f).toInt64.toUInt64).toInt64).toInt32).toInt8.toInt32)), (.int (sn + (6 : Int32))), (.ref b2)])) rfl rfl (hb hby at_308)
  have Vb2_25 : own_L Z h25 b2 .byte ((((((((vs0.set (ns) (.int (((((q0.toUInt64 >>> ((56 : Int32) &&& 0x3f).toInt64.toUInt64).toInt64).toInt32).toInt8.toInt32).toInt8.toInt32))).set (ns + 1) (.int (((((q0.toUInt64 >>> ((48 : Int32) &&& 0x3f).toInt64.toUInt64).toInt64).toInt32).toInt8.toInt32).toInt8.toInt32))).set (ns + 2) (.int (((((q0.toUInt64 >>> ((40 : Int32) &&& 0x3f).toInt64.toUInt64).toInt64).toInt32).toInt8.toInt32).toInt8.toInt32))).set (ns + 3) (.int (((((q0.toUInt64 >>> ((32 : Int32) &&& 0x3f).toInt64.toUInt64).toInt64).toInt32).toInt8.toInt32).toInt8.toInt32))).set (ns + 4) (.int (((((q0.toUInt64 >>> ((24 : Int32) &&& 0x3f).toInt64.toUInt64).toInt64).toInt32).toInt8.toInt32).toInt8.toInt32))).set (ns + 5) (.int (((((q0.toUInt64 >>> ((16 : Int32) &&& 0x3f).toInt64.toUInt64).toInt64).toInt32).toInt8.toInt32).toInt8.toInt32))).set (ns + 6) (.int (((((q0.toUInt64 >>> ((8 : Int32) &&& 0x3f).toInt64.toUInt64).toInt64).toInt32).toInt8.toInt32).toInt8.toInt32)))) := V25
  have N25 := Fr.snoc X25 N24 G2
  refine own_st (fun zw zk => st25 zw zk) ?_
  have Z25 : n0 ≤ h25.size := Nat.le_trans Z24 (Keep.of_wr W25).1
  refine own_st (fun zw zk => XS.aload X25.here hx rfl (hb hby at_309) rfl rfl zk) ?_
  refine own_st (fun zw zk => XS.iload X25.here hx rfl (hb hby at_311) rfl zk) ?_
  refine own_st (fun zw zk => XS.bipush X25.here hx rfl (hb hby at_313) zk) ?_
  refine own_st (fun zw zk => XS.iadd X25.here hx rfl (hb hby at_315) rfl zk) ?_
  show own_Go p e below G (T25.setTop (mkF m 316 #[.val (.long q0), .second, .val (.long q1), .second, .val (.int p2), .val (.int p3), .val (.ref b2), .val (.int sn), .val (.int ln), .unset, .unset] [(.int (sn + (7 : Int32))), (.ref b2)]))
  refine own_st (fun zw zk => XS.lloadN X25.here hx rfl (hb hby at_316) rfl zk) ?_
  refine own_st (fun zw zk => XS.l2i X25.here hx rfl (hb hby at_317) rfl zk) ?_
  refine own_st (fun zw zk => XS.i2b X25.here hx rfl (hb hby at_318) rfl zk) ?_
  obtain ⟨T26, h26, X26, e26, W26, V26, st26⟩ := own_bst X25 hx hZ e25 Vb2_25 (j := (sn + (7 : Int32))) (ns + 7) (own_nn (own_addk 7 (by decide) (by decide) hns hns7)) (own_nat (own_addk 7 (by decide) (by decide) hns hns7)) (by simp only [List.length_set]; omega) (g := (mkF m 319 #[.val (.long q0), .second, .val (.long q1), .second, .val (.int p2), .val (.int p3), .val (.ref b2), .val (.int sn), .val (.int ln), .unset, .unset] [(.int ((q0.toInt32).toInt8.toInt32)), (.int (sn + (7 : Int32))), (.ref b2)])) rfl rfl (hb hby at_319)
  have Vb2_26 : own_L Z h26 b2 .byte (((((((((vs0.set (ns) (.int (((((q0.toUInt64 >>> ((56 : Int32) &&& 0x3f).toInt64.toUInt64).toInt64).toInt32).toInt8.toInt32).toInt8.toInt32))).set (ns + 1) (.int (((((q0.toUInt64 >>> ((48 : Int32) &&& 0x3f).toInt64.toUInt64).toInt64).toInt32).toInt8.toInt32).toInt8.toInt32))).set (ns + 2) (.int (((((q0.toUInt64 >>> ((40 : Int32) &&& 0x3f).toInt64.toUInt64).toInt64).toInt32).toInt8.toInt32).toInt8.toInt32))).set (ns + 3) (.int (((((q0.toUInt64 >>> ((32 : Int32) &&& 0x3f).toInt64.toUInt64).toInt64).toInt32).toInt8.toInt32).toInt8.toInt32))).set (ns + 4) (.int (((((q0.toUInt64 >>> ((24 : Int32) &&& 0x3f).toInt64.toUInt64).toInt64).toInt32).toInt8.toInt32).toInt8.toInt32))).set (ns + 5) (.int (((((q0.toUInt64 >>> ((16 : Int32) &&& 0x3f).toInt64.toUInt64).toInt64).toInt32).toInt8.toInt32).toInt8.toInt32))).set (ns + 6) (.int (((((q0.toUInt64 >>> ((8 : Int32) &&& 0x3f).toInt64.toUInt64).toInt64).toInt32).toInt8.toInt32).toInt8.toInt32))).set (ns + 7) (.int (((q0.toInt32).toInt8.toInt32).toInt8.toInt32)))) := V26
  have N26 := Fr.snoc X26 N25 G2
  refine own_st (fun zw zk => st26 zw zk) ?_
  have Z26 : n0 ≤ h26.size := Nat.le_trans Z25 (Keep.of_wr W26).1
  have VB8 : own_L Z h26 b2 .byte (own_A8 q0 vs0 ns) := Vb2_26
  rcases own_tenl hln with e0 | e0 | e0 | e0 | e0 | e0 | e0 | e0 | e0 | e0
  · show own_Go p e below G (T26.setTop (mkF m 320 #[.val (.long q0), .second, .val (.long q1), .second, .val (.int p2), .val (.int p3), .val (.ref b2), .val (.int sn), .val (.int ln), .unset, .unset] []))
    rw [show ln = (0 : Int32) from e0]
    refine own_st (fun zw zk => XS.iload X26.here hx rfl (hb hby at_320) rfl zk) ?_
    refine own_st (fun zw zk => XS.ifNo X26.here hx rfl (hb hby at_322) rfl ((if0 _ _).trans (teq (by decide : (0 : Int32) = (0 : Int32))).2) zk) ?_
    refine own_st (fun zw zk => XS.lconst X26.here hx rfl (hb hby at_325) zk) ?_
    refine own_st (fun zw zk => XS.lstore X26.here hx rfl (hb hby at_326) rfl rfl zk) ?_
    show own_Go p e below G (T26.setTop (mkF m 328 #[.val (.long q0), .second, .val (.long q1), .second, .val (.int p2), .val (.int p3), .val (.ref b2), .val (.int sn), .val (.int (0 : Int32)), .val (.long (0 : Int64)), .second] []))
    refine own_st (fun zw zk => XS.goto X26.here hx rfl (pc0 := 328) (pc' := 368) rfl (hb hby at_328) (by decide) (by decide) zk) ?_
    show own_Go p e below G (T26.setTop (mkF m 368 #[.val (.long q0), .second, .val (.long q1), .second, .val (.int p2), .val (.int p3), .val (.ref b2), .val (.int sn), .val (.int (0 : Int32)), .val (.long (0 : Int64)), .second] []))
    refine own_st (fun zw zk => XS.aload X26.here hx rfl (hb hby at_368) rfl rfl zk) ?_
    refine own_st (fun zw zk => XS.iload X26.here hx rfl (hb hby at_370) rfl zk) ?_
    refine own_st (fun zw zk => XS.iload X26.here hx rfl (hb hby at_372) rfl zk) ?_
    refine own_st (fun zw zk => XS.iload X26.here hx rfl (hb hby at_374) rfl zk) ?_
    refine own_st (fun zw zk => XS.iadd X26.here hx rfl (hb hby at_376) rfl zk) ?_
    have pq1 : (sn + (0 : Int32)).toInt = (ns + 0 : Nat) := own_addk 0 (by decide) (by decide) hns hns7
    have pq2 : ns ≤ ns + 0 := Nat.le_add_right _ _
    have pq3 : (ns + 0) - ns ≤ 7 := by rw [Nat.add_sub_cancel_left]; decide
    have pq4 : ns + 0 ≤ 16 := Nat.le_trans (Nat.add_le_add_right hns7 0) (by decide)
    have pq5 : q0.toBitVec.toNat < 2 ^ 64 := q0.toBitVec.isLt
    have pq6 := own_hget q0 hv0 hns7 (n := 0) (by decide)
    obtain ⟨_, _, ⟨T27, L27, k27, n27⟩, -, X27, ⟨Lc27, hQ27, l27, y27, z27⟩, st27⟩ := Jvm.LawKit.callS X26 hx (y := (⟨"com/example/passau/passau/drawing/IdList", "keyOf", "([BII)J"⟩ : MethodName)) hown (mvT hZ (hw _ (List.mem_of_getElem? (i := 3) rfl))) (mvT hZ (hw _ (List.mem_of_getElem? (i := 4) rfl))) (mvT hZ (hw _ (List.mem_of_getElem? (i := 5) rfl))) (mvT hZ (hw _ (List.mem_of_getElem? (i := 6) rfl))) (by decide) (backOf (W := 0) (rm1 l Z a0 hw [] b2 sn (sn + (0 : Int32)) (own_A8 q0 vs0 ns) q0.toBitVec.toNat ns (ns + 0) h26 n0 Z26 (VB8) (hns) (pq1) (pq2) (pq3) (pq4) (pq5) (pq6)) hZ (hw _ (List.mem_of_getElem? (i := 6) rfl)) (hw _ (List.mem_of_getElem? (i := 5) rfl)) (by decide) (by decide)) (g := (mkF m 377 #[.val (.long q0), .second, .val (.long q1), .second, .val (.int p2), .val (.int p3), .val (.ref b2), .val (.int sn), .val (.int (0 : Int32)), .val (.long (0 : Int64)), .second] [(.int (sn + (0 : Int32))), (.int sn), (.ref b2)])) rfl (by rw [hml]; rfl) (argsL := [(.ref b2), (.int sn), (.int (sn + (0 : Int32)))]) (rest := []) (lenOf pd_0 rfl) rfl (by show 2 * 0 + _ ≤ _; exact Nat.le_of_eq rfl) (hb hby at_377) (fun _ _ => ⟨rfl, e26, (by decide : 1 + 0 ≤ _), (by decide : 16 + 0 ≤ _)⟩)
    dsimp only [Pt.U, Pt.locs, Pt.cells, Pt.slots] at X27 l27 y27 z27 st27 hQ27
    rw [l27, y27, z27] at X27
    obtain ⟨rfl, N27q, e27⟩ := hQ27
    have N27 := Fr.app N26 N27q
    refine own_st (fun zw zk => st27 zw zk) ?_
    refine own_st (fun zw zk => XS.lload X27.here hx rfl (hb hby at_380) rfl zk) ?_
    refine own_st (fun zw zk => XS.lcmp X27.here hx rfl (hb hby at_382) rfl zk) ?_
    show own_Go p e below G (T27.setTop (mkF m 383 #[.val (.long q0), .second, .val (.long q1), .second, .val (.int p2), .val (.int p3), .val (.ref b2), .val (.int sn), .val (.int (0 : Int32)), .val (.long (0 : Int64)), .second] [(.int (lcmpW (own_key q0.toBitVec.toNat ((ns + 0) - ns)) (0 : Int64)))]))
    have hc383 : (own_key q0.toBitVec.toNat ((ns + 0) - ns)) = (0 : Int64) := by rw [Nat.add_sub_cancel_left]; exact own_key0 q0
    refine own_st (fun zw zk => XS.ifNo X27.here hx rfl (hb hby at_383) rfl ((if0 _ _).trans (teq (own_tle hc383)).2) zk) ?_
    refine own_st (fun zw zk => XS.iconst X27.here hx rfl (hb hby at_386) zk) ?_
    refine own_st (fun zw zk => XS.goto X27.here hx rfl (pc0 := 387) (pc' := 391) rfl (hb hby at_387) (by decide) (by decide) zk) ?_
    show own_Go p e below G (T27.setTop (mkF m 391 #[.val (.long q0), .second, .val (.long q1), .second, .val (.int p2), .val (.int p3), .val (.ref b2), .val (.int sn), .val (.int (0 : Int32)), .val (.long (0 : Int64)), .second] [(.int (1 : Int32))]))
    subst hG
    obtain ⟨fs, hr, hrun, hended, hW, hsame⟩ := X27.leave (v := some (.int (1 : Int32))) (hlocks := Bd.notSynchronized) (fun h => by rw [Bd.returns] at h; cases h)
    refine ⟨_, retN X27 hx (t := .boolean) Bd.returns (by simp) (hb hby at_391) hr, _, hrun, hended, _, _, rfl, ?_, ⟨_, rfl⟩, hW, hsame.mono (by decide) (by decide)⟩
    show Q0 Z q0 q1 p2 p3 h0 n0 _ T27.heap _
    rw [e27]
    exact ⟨rfl, N27⟩
  · show own_Go p e below G (T26.setTop (mkF m 320 #[.val (.long q0), .second, .val (.long q1), .second, .val (.int p2), .val (.int p3), .val (.ref b2), .val (.int sn), .val (.int ln), .unset, .unset] []))
    rw [show ln = (1 : Int32) from e0]
    refine own_st (fun zw zk => XS.iload X26.here hx rfl (hb hby at_320) rfl zk) ?_
    refine own_st (fun zw zk => XS.ifYes X26.here hx rfl (pc0 := 322) (pc' := 331) rfl (hb hby at_322) rfl ((if0 _ _).trans (feq (by decide : ¬ ((1 : Int32) = (0 : Int32)))).2) (by decide) (by decide) zk) ?_
    refine own_st (fun zw zk => XS.iload X26.here hx rfl (hb hby at_331) rfl zk) ?_
    refine own_st (fun zw zk => XS.bipush X26.here hx rfl (hb hby at_333) zk) ?_
    refine own_st (fun zw zk => XS.icmpNo X26.here hx rfl (hb hby at_335) rfl (flt (by decide : ¬ ((7 : Int32) < (1 : Int32)))).2.2.1 zk) ?_
    refine own_st (fun zw zk => XS.iload X26.here hx rfl (hb hby at_338) rfl zk) ?_
    refine own_st (fun zw zk => XS.i2l X26.here hx rfl (hb hby at_340) rfl zk) ?_
    refine own_st (fun zw zk => XS.bipush X26.here hx rfl (hb hby at_341) zk) ?_
    show own_Go p e below G (T26.setTop (mkF m 343 #[.val (.long q0), .second, .val (.long q1), .second, .val (.int p2), .val (.int p3), .val (.ref b2), .val (.int sn), .val (.int (1 : Int32)), .unset, .unset] [(.int (8 : Int32)), (.long (1 : Int64))]))
    refine own_st (fun zw zk => XS.iload X26.here hx rfl (hb hby at_343) rfl zk) ?_
    refine own_st (fun zw zk => XS.imul X26.here hx rfl (hb hby at_345) rfl zk) ?_
    refine own_st (fun zw zk => XS.lshl X26.here hx rfl (hb hby at_346) rfl zk) ?_
    refine own_st (fun zw zk => XS.lloadN X26.here hx rfl (hb hby at_347) rfl zk) ?_
    refine own_st (fun zw zk => XS.bipush X26.here hx rfl (hb hby at_348) zk) ?_
    refine own_st (fun zw zk => XS.bipush X26.here hx rfl (hb hby at_350) zk) ?_
    refine own_st (fun zw zk => XS.iload X26.here hx rfl (hb hby at_352) rfl zk) ?_
    refine own_st (fun zw zk => XS.imul X26.here hx rfl (hb hby at_354) rfl zk) ?_
    show own_Go p e below G (T26.setTop (mkF m 355 #[.val (.long q0), .second, .val (.long q1), .second, .val (.int p2), .val (.int p3), .val (.ref b2), .val (.int sn), .val (.int (1 : Int32)), .unset, .unset] [(.int (8 : Int32)), (.int (64 : Int32)), (.long q0), (.long ((1 : Int64) <<< ((8 : Int32) &&& 0x3f).toInt64))]))
    refine own_st (fun zw zk => XS.isub X26.here hx rfl (hb hby at_355) rfl zk) ?_
    refine own_st (fun zw zk => XS.lushr X26.here hx rfl (hb hby at_356) rfl zk) ?_
    refine own_st (fun zw zk => XS.lor X26.here hx rfl (hb hby at_357) rfl zk) ?_
    refine own_st (fun zw zk => XS.lstore X26.here hx rfl (hb hby at_358) rfl rfl zk) ?_
    show own_Go p e below G (T26.setTop (mkF m 360 #[.val (.long q0), .second, .val (.long q1), .second, .val (.int p2), .val (.int p3), .val (.ref b2), .val (.int sn), .val (.int (1 : Int32)), .val (.long (((1 : Int64) <<< ((8 : Int32) &&& 0x3f).toInt64) ||| ((q0.toUInt64 >>> ((56 : Int32) &&& 0x3f).toInt64.toUInt64).toInt64))), .second] []))
    refine own_st (fun zw zk => XS.goto X26.here hx rfl (pc0 := 360) (pc' := 368) rfl (hb hby at_360) (by decide) (by decide) zk) ?_
    show own_Go p e below G (T26.setTop (mkF m 368 #[.val (.long q0), .second, .val (.long q1), .second, .val (.int p2), .val (.int p3), .val (.ref b2), .val (.int sn), .val (.int (1 : Int32)), .val (.long (((1 : Int64) <<< ((8 : Int32) &&& 0x3f).toInt64) ||| ((q0.toUInt64 >>> ((56 : Int32) &&& 0x3f).toInt64.toUInt64).toInt64))), .second] []))
    refine own_st (fun zw zk => XS.aload X26.here hx rfl (hb hby at_368) rfl rfl zk) ?_
    refine own_st (fun zw zk => XS.iload X26.here hx rfl (hb hby at_370) rfl zk) ?_
    refine own_st (fun zw zk => XS.iload X26.here hx rfl (hb hby at_372) rfl zk) ?_
    refine own_st (fun zw zk => XS.iload X26.here hx rfl (hb hby at_374) rfl zk) ?_
    refine own_st (fun zw zk => XS.iadd X26.here hx rfl (hb hby at_376) rfl zk) ?_
    have pq1 : (sn + (1 : Int32)).toInt = (ns + 1 : Nat) := own_addk 1 (by decide) (by decide) hns hns7
    have pq2 : ns ≤ ns + 1 := Nat.le_add_right _ _
    have pq3 : (ns + 1) - ns ≤ 7 := by rw [Nat.add_sub_cancel_left]; decide
    have pq4 : ns + 1 ≤ 16 := Nat.le_trans (Nat.add_le_add_right hns7 1) (by decide)
    have pq5 : q0.toBitVec.toNat < 2 ^ 64 := q0.toBitVec.isLt
    have pq6 := own_hget q0 hv0 hns7 (n := 1) (by decide)
    obtain ⟨_, _, ⟨T28, L28, k28, n28⟩, -, X28, ⟨Lc28, hQ28, l28, y28, z28⟩, st28⟩ := Jvm.LawKit.callS X26 hx (y := (⟨"com/example/passau/passau/drawing/IdList", "keyOf", "([BII)J"⟩ : MethodName)) hown (mvT hZ (hw _ (List.mem_of_getElem? (i := 3) rfl))) (mvT hZ (hw _ (List.mem_of_getElem? (i := 4) rfl))) (mvT hZ (hw _ (List.mem_of_getElem? (i := 5) rfl))) (mvT hZ (hw _ (List.mem_of_getElem? (i := 6) rfl))) (by decide) (backOf (W := 0) (rm1 l Z a0 hw [] b2 sn (sn + (1 : Int32)) (own_A8 q0 vs0 ns) q0.toBitVec.toNat ns (ns + 1) h26 n0 Z26 (VB8) (hns) (pq1) (pq2) (pq3) (pq4) (pq5) (pq6)) hZ (hw _ (List.mem_of_getElem? (i := 6) rfl)) (hw _ (List.mem_of_getElem? (i := 5) rfl)) (by decide) (by decide)) (g := (mkF m 377 #[.val (.long q0), .second, .val (.long q1), .second, .val (.int p2), .val (.int p3), .val (.ref b2), .val (.int sn), .val (.int (1 : Int32)), .val (.long (((1 : Int64) <<< ((8 : Int32) &&& 0x3f).toInt64) ||| ((q0.toUInt64 >>> ((56 : Int32) &&& 0x3f).toInt64.toUInt64).toInt64))), .second] [(.int (sn + (1 : Int32))), (.int sn), (.ref b2)])) rfl (by rw [hml]; rfl) (argsL := [(.ref b2), (.int sn), (.int (sn + (1 : Int32)))]) (rest := []) (lenOf pd_0 rfl) rfl (by show 2 * 0 + _ ≤ _; exact Nat.le_of_eq rfl) (hb hby at_377) (fun _ _ => ⟨rfl, e26, (by decide : 1 + 0 ≤ _), (by decide : 16 + 0 ≤ _)⟩)
    dsimp only [Pt.U, Pt.locs, Pt.cells, Pt.slots] at X28 l28 y28 z28 st28 hQ28
    rw [l28, y28, z28] at X28
    obtain ⟨rfl, N28q, e28⟩ := hQ28
    have N28 := Fr.app N26 N28q
    refine own_st (fun zw zk => st28 zw zk) ?_
    refine own_st (fun zw zk => XS.lload X28.here hx rfl (hb hby at_380) rfl zk) ?_
    refine own_st (fun zw zk => XS.lcmp X28.here hx rfl (hb hby at_382) rfl zk) ?_
    show own_Go p e below G (T28.setTop (mkF m 383 #[.val (.long q0), .second, .val (.long q1), .second, .val (.int p2), .val (.int p3), .val (.ref b2), .val (.int sn), .val (.int (1 : Int32)), .val (.long (((1 : Int64) <<< ((8 : Int32) &&& 0x3f).toInt64) ||| ((q0.toUInt64 >>> ((56 : Int32) &&& 0x3f).toInt64.toUInt64).toInt64))), .second] [(.int (lcmpW (own_key q0.toBitVec.toNat ((ns + 1) - ns)) (((1 : Int64) <<< ((8 : Int32) &&& 0x3f).toInt64) ||| ((q0.toUInt64 >>> ((56 : Int32) &&& 0x3f).toInt64.toUInt64).toInt64))))]))
    have hc383 : (own_key q0.toBitVec.toNat ((ns + 1) - ns)) = (((1 : Int64) <<< ((8 : Int32) &&& 0x3f).toInt64) ||| ((q0.toUInt64 >>> ((56 : Int32) &&& 0x3f).toInt64.toUInt64).toInt64)) := by rw [Nat.add_sub_cancel_left]; exact own_exp q0 1 (1 : Int64) (8 : Int32) (56 : Int32) (by decide) (by decide) (by decide) (by decide) (by decide)
    refine own_st (fun zw zk => XS.ifNo X28.here hx rfl (hb hby at_383) rfl ((if0 _ _).trans (teq (own_tle hc383)).2) zk) ?_
    refine own_st (fun zw zk => XS.iconst X28.here hx rfl (hb hby at_386) zk) ?_
    refine own_st (fun zw zk => XS.goto X28.here hx rfl (pc0 := 387) (pc' := 391) rfl (hb hby at_387) (by decide) (by decide) zk) ?_
    show own_Go p e below G (T28.setTop (mkF m 391 #[.val (.long q0), .second, .val (.long q1), .second, .val (.int p2), .val (.int p3), .val (.ref b2), .val (.int sn), .val (.int (1 : Int32)), .val (.long (((1 : Int64) <<< ((8 : Int32) &&& 0x3f).toInt64) ||| ((q0.toUInt64 >>> ((56 : Int32) &&& 0x3f).toInt64.toUInt64).toInt64))), .second] [(.int (1 : Int32))]))
    subst hG
    obtain ⟨fs, hr, hrun, hended, hW, hsame⟩ := X28.leave (v := some (.int (1 : Int32))) (hlocks := Bd.notSynchronized) (fun h => by rw [Bd.returns] at h; cases h)
    refine ⟨_, retN X28 hx (t := .boolean) Bd.returns (by simp) (hb hby at_391) hr, _, hrun, hended, _, _, rfl, ?_, ⟨_, rfl⟩, hW, hsame.mono (by decide) (by decide)⟩
    show Q0 Z q0 q1 p2 p3 h0 n0 _ T28.heap _
    rw [e28]
    exact ⟨rfl, N28⟩
  · show own_Go p e below G (T26.setTop (mkF m 320 #[.val (.long q0), .second, .val (.long q1), .second, .val (.int p2), .val (.int p3), .val (.ref b2), .val (.int sn), .val (.int ln), .unset, .unset] []))
    rw [show ln = (2 : Int32) from e0]
    refine own_st (fun zw zk => XS.iload X26.here hx rfl (hb hby at_320) rfl zk) ?_
    refine own_st (fun zw zk => XS.ifYes X26.here hx rfl (pc0 := 322) (pc' := 331) rfl (hb hby at_322) rfl ((if0 _ _).trans (feq (by decide : ¬ ((2 : Int32) = (0 : Int32)))).2) (by decide) (by decide) zk) ?_
    refine own_st (fun zw zk => XS.iload X26.here hx rfl (hb hby at_331) rfl zk) ?_
    refine own_st (fun zw zk => XS.bipush X26.here hx rfl (hb hby at_333) zk) ?_
    refine own_st (fun zw zk => XS.icmpNo X26.here hx rfl (hb hby at_335) rfl (flt (by decide : ¬ ((7 : Int32) < (2 : Int32)))).2.2.1 zk) ?_
    refine own_st (fun zw zk => XS.iload X26.here hx rfl (hb hby at_338) rfl zk) ?_
    refine own_st (fun zw zk => XS.i2l X26.here hx rfl (hb hby at_340) rfl zk) ?_
    refine own_st (fun zw zk => XS.bipush X26.here hx rfl (hb hby at_341) zk) ?_
    show own_Go p e below G (T26.setTop (mkF m 343 #[.val (.long q0), .second, .val (.long q1), .second, .val (.int p2), .val (.int p3), .val (.ref b2), .val (.int sn), .val (.int (2 : Int32)), .unset, .unset] [(.int (8 : Int32)), (.long (2 : Int64))]))
    refine own_st (fun zw zk => XS.iload X26.here hx rfl (hb hby at_343) rfl zk) ?_
    refine own_st (fun zw zk => XS.imul X26.here hx rfl (hb hby at_345) rfl zk) ?_
    refine own_st (fun zw zk => XS.lshl X26.here hx rfl (hb hby at_346) rfl zk) ?_
    refine own_st (fun zw zk => XS.lloadN X26.here hx rfl (hb hby at_347) rfl zk) ?_
    refine own_st (fun zw zk => XS.bipush X26.here hx rfl (hb hby at_348) zk) ?_
    refine own_st (fun zw zk => XS.bipush X26.here hx rfl (hb hby at_350) zk) ?_
    refine own_st (fun zw zk => XS.iload X26.here hx rfl (hb hby at_352) rfl zk) ?_
    refine own_st (fun zw zk => XS.imul X26.here hx rfl (hb hby at_354) rfl zk) ?_
    show own_Go p e below G (T26.setTop (mkF m 355 #[.val (.long q0), .second, .val (.long q1), .second, .val (.int p2), .val (.int p3), .val (.ref b2), .val (.int sn), .val (.int (2 : Int32)), .unset, .unset] [(.int (16 : Int32)), (.int (64 : Int32)), (.long q0), (.long ((2 : Int64) <<< ((16 : Int32) &&& 0x3f).toInt64))]))
    refine own_st (fun zw zk => XS.isub X26.here hx rfl (hb hby at_355) rfl zk) ?_
    refine own_st (fun zw zk => XS.lushr X26.here hx rfl (hb hby at_356) rfl zk) ?_
    refine own_st (fun zw zk => XS.lor X26.here hx rfl (hb hby at_357) rfl zk) ?_
    refine own_st (fun zw zk => XS.lstore X26.here hx rfl (hb hby at_358) rfl rfl zk) ?_
    show own_Go p e below G (T26.setTop (mkF m 360 #[.val (.long q0), .second, .val (.long q1), .second, .val (.int p2), .val (.int p3), .val (.ref b2), .val (.int sn), .val (.int (2 : Int32)), .val (.long (((2 : Int64) <<< ((16 : Int32) &&& 0x3f).toInt64) ||| ((q0.toUInt64 >>> ((48 : Int32) &&& 0x3f).toInt64.toUInt64).toInt64))), .second] []))
    refine own_st (fun zw zk => XS.goto X26.here hx rfl (pc0 := 360) (pc' := 368) rfl (hb hby at_360) (by decide) (by decide) zk) ?_
    show own_Go p e below G (T26.setTop (mkF m 368 #[.val (.long q0), .second, .val (.long q1), .second, .val (.int p2), .val (.int p3), .val (.ref b2), .val (.int sn), .val (.int (2 : Int32)), .val (.long (((2 : Int64) <<< ((16 : Int32) &&& 0x3f).toInt64) ||| ((q0.toUInt64 >>> ((48 : Int32) &&& 0x3f).toInt64.toUInt64).toInt64))), .second] []))
    refine own_st (fun zw zk => XS.aload X26.here hx rfl (hb hby at_368) rfl rfl zk) ?_
    refine own_st (fun zw zk => XS.iload X26.here hx rfl (hb hby at_370) rfl zk) ?_
    refine own_st (fun zw zk => XS.iload X26.here hx rfl (hb hby at_372) rfl zk) ?_
    refine own_st (fun zw zk => XS.iload X26.here hx rfl (hb hby at_374) rfl zk) ?_
    refine own_st (fun zw zk => XS.iadd X26.here hx rfl (hb hby at_376) rfl zk) ?_
    have pq1 : (sn + (2 : Int32)).toInt = (ns + 2 : Nat) := own_addk 2 (by decide) (by decide) hns hns7
    have pq2 : ns ≤ ns + 2 := Nat.le_add_right _ _
    have pq3 : (ns + 2) - ns ≤ 7 := by rw [Nat.add_sub_cancel_left]; decide
    have pq4 : ns + 2 ≤ 16 := Nat.le_trans (Nat.add_le_add_right hns7 2) (by decide)
    have pq5 : q0.toBitVec.toNat < 2 ^ 64 := q0.toBitVec.isLt
    have pq6 := own_hget q0 hv0 hns7 (n := 2) (by decide)
    obtain ⟨_, _, ⟨T29, L29, k29, n29⟩, -, X29, ⟨Lc29, hQ29, l29, y29, z29⟩, st29⟩ := Jvm.LawKit.callS X26 hx (y := (⟨"com/example/passau/passau/drawing/IdList", "keyOf", "([BII)J"⟩ : MethodName)) hown (mvT hZ (hw _ (List.mem_of_getElem? (i := 3) rfl))) (mvT hZ (hw _ (List.mem_of_getElem? (i := 4) rfl))) (mvT hZ (hw _ (List.mem_of_getElem? (i := 5) rfl))) (mvT hZ (hw _ (List.mem_of_getElem? (i := 6) rfl))) (by decide) (backOf (W := 0) (rm1 l Z a0 hw [] b2 sn (sn + (2 : Int32)) (own_A8 q0 vs0 ns) q0.toBitVec.toNat ns (ns + 2) h26 n0 Z26 (VB8) (hns) (pq1) (pq2) (pq3) (pq4) (pq5) (pq6)) hZ (hw _ (List.mem_of_getElem? (i := 6) rfl)) (hw _ (List.mem_of_getElem? (i := 5) rfl)) (by decide) (by decide)) (g := (mkF m 377 #[.val (.long q0), .second, .val (.long q1), .second, .val (.int p2), .val (.int p3), .val (.ref b2), .val (.int sn), .val (.int (2 : Int32)), .val (.long (((2 : Int64) <<< ((16 : Int32) &&& 0x3f).toInt64) ||| ((q0.toUInt64 >>> ((48 : Int32) &&& 0x3f).toInt64.toUInt64).toInt64))), .second] [(.int (sn + (2 : Int32))), (.int sn), (.ref b2)])) rfl (by rw [hml]; rfl) (argsL := [(.ref b2), (.int sn), (.int (sn + (2 : Int32)))]) (rest := []) (lenOf pd_0 rfl) rfl (by show 2 * 0 + _ ≤ _; exact Nat.le_of_eq rfl) (hb hby at_377) (fun _ _ => ⟨rfl, e26, (by decide : 1 + 0 ≤ _), (by decide : 16 + 0 ≤ _)⟩)
    dsimp only [Pt.U, Pt.locs, Pt.cells, Pt.slots] at X29 l29 y29 z29 st29 hQ29
    rw [l29, y29, z29] at X29
    obtain ⟨rfl, N29q, e29⟩ := hQ29
    have N29 := Fr.app N26 N29q
    refine own_st (fun zw zk => st29 zw zk) ?_
    refine own_st (fun zw zk => XS.lload X29.here hx rfl (hb hby at_380) rfl zk) ?_
    refine own_st (fun zw zk => XS.lcmp X29.here hx rfl (hb hby at_382) rfl zk) ?_
    show own_Go p e below G (T29.setTop (mkF m 383 #[.val (.long q0), .second, .val (.long q1), .second, .val (.int p2), .val (.int p3), .val (.ref b2), .val (.int sn), .val (.int (2 : Int32)), .val (.long (((2 : Int64) <<< ((16 : Int32) &&& 0x3f).toInt64) ||| ((q0.toUInt64 >>> ((48 : Int32) &&& 0x3f).toInt64.toUInt64).toInt64))), .second] [(.int (lcmpW (own_key q0.toBitVec.toNat ((ns + 2) - ns)) (((2 : Int64) <<< ((16 : Int32) &&& 0x3f).toInt64) ||| ((q0.toUInt64 >>> ((48 : Int32) &&& 0x3f).toInt64.toUInt64).toInt64))))]))
    have hc383 : (own_key q0.toBitVec.toNat ((ns + 2) - ns)) = (((2 : Int64) <<< ((16 : Int32) &&& 0x3f).toInt64) ||| ((q0.toUInt64 >>> ((48 : Int32) &&& 0x3f).toInt64.toUInt64).toInt64)) := by rw [Nat.add_sub_cancel_left]; exact own_exp q0 2 (2 : Int64) (16 : Int32) (48 : Int32) (by decide) (by decide) (by decide) (by decide) (by decide)
    refine own_st (fun zw zk => XS.ifNo X29.here hx rfl (hb hby at_383) rfl ((if0 _ _).trans (teq (own_tle hc383)).2) zk) ?_
    refine own_st (fun zw zk => XS.iconst X29.here hx rfl (hb hby at_386) zk) ?_
    refine own_st (fun zw zk => XS.goto X29.here hx rfl (pc0 := 387) (pc' := 391) rfl (hb hby at_387) (by decide) (by decide) zk) ?_
    show own_Go p e below G (T29.setTop (mkF m 391 #[.val (.long q0), .second, .val (.long q1), .second, .val (.int p2), .val (.int p3), .val (.ref b2), .val (.int sn), .val (.int (2 : Int32)), .val (.long (((2 : Int64) <<< ((16 : Int32) &&& 0x3f).toInt64) ||| ((q0.toUInt64 >>> ((48 : Int32) &&& 0x3f).toInt64.toUInt64).toInt64))), .second] [(.int (1 : Int32))]))
    subst hG
    obtain ⟨fs, hr, hrun, hended, hW, hsame⟩ := X29.leave (v := some (.int (1 : Int32))) (hlocks := Bd.notSynchronized) (fun h => by rw [Bd.returns] at h; cases h)
    refine ⟨_, retN X29 hx (t := .boolean) Bd.returns (by simp) (hb hby at_391) hr, _, hrun, hended, _, _, rfl, ?_, ⟨_, rfl⟩, hW, hsame.mono (by decide) (by decide)⟩
    show Q0 Z q0 q1 p2 p3 h0 n0 _ T29.heap _
    rw [e29]
    exact ⟨rfl, N29⟩
  · show own_Go p e below G (T26.setTop (mkF m 320 #[.val (.long q0), .second, .val (.long q1), .second, .val (.int p2), .val (.int p3), .val (.ref b2), .val (.int sn), .val (.int ln), .unset, .unset] []))
    rw [show ln = (3 : Int32) from e0]
    refine own_st (fun zw zk => XS.iload X26.here hx rfl (hb hby at_320) rfl zk) ?_
    refine own_st (fun zw zk => XS.ifYes X26.here hx rfl (pc0 := 322) (pc' := 331) rfl (hb hby at_322) rfl ((if0 _ _).trans (feq (by decide : ¬ ((3 : Int32) = (0 : Int32)))).2) (by decide) (by decide) zk) ?_
    refine own_st (fun zw zk => XS.iload X26.here hx rfl (hb hby at_331) rfl zk) ?_
    refine own_st (fun zw zk => XS.bipush X26.here hx rfl (hb hby at_333) zk) ?_
    refine own_st (fun zw zk => XS.icmpNo X26.here hx rfl (hb hby at_335) rfl (flt (by decide : ¬ ((7 : Int32) < (3 : Int32)))).2.2.1 zk) ?_
    refine own_st (fun zw zk => XS.iload X26.here hx rfl (hb hby at_338) rfl zk) ?_
    refine own_st (fun zw zk => XS.i2l X26.here hx rfl (hb hby at_340) rfl zk) ?_
    refine own_st (fun zw zk => XS.bipush X26.here hx rfl (hb hby at_341) zk) ?_
    show own_Go p e below G (T26.setTop (mkF m 343 #[.val (.long q0), .second, .val (.long q1), .second, .val (.int p2), .val (.int p3), .val (.ref b2), .val (.int sn), .val (.int (3 : Int32)), .unset, .unset] [(.int (8 : Int32)), (.long (3 : Int64))]))
    refine own_st (fun zw zk => XS.iload X26.here hx rfl (hb hby at_343) rfl zk) ?_
    refine own_st (fun zw zk => XS.imul X26.here hx rfl (hb hby at_345) rfl zk) ?_
    refine own_st (fun zw zk => XS.lshl X26.here hx rfl (hb hby at_346) rfl zk) ?_
    refine own_st (fun zw zk => XS.lloadN X26.here hx rfl (hb hby at_347) rfl zk) ?_
    refine own_st (fun zw zk => XS.bipush X26.here hx rfl (hb hby at_348) zk) ?_
    refine own_st (fun zw zk => XS.bipush X26.here hx rfl (hb hby at_350) zk) ?_
    refine own_st (fun zw zk => XS.iload X26.here hx rfl (hb hby at_352) rfl zk) ?_
    refine own_st (fun zw zk => XS.imul X26.here hx rfl (hb hby at_354) rfl zk) ?_
    show own_Go p e below G (T26.setTop (mkF m 355 #[.val (.long q0), .second, .val (.long q1), .second, .val (.int p2), .val (.int p3), .val (.ref b2), .val (.int sn), .val (.int (3 : Int32)), .unset, .unset] [(.int (24 : Int32)), (.int (64 : Int32)), (.long q0), (.long ((3 : Int64) <<< ((24 : Int32) &&& 0x3f).toInt64))]))
    refine own_st (fun zw zk => XS.isub X26.here hx rfl (hb hby at_355) rfl zk) ?_
    refine own_st (fun zw zk => XS.lushr X26.here hx rfl (hb hby at_356) rfl zk) ?_
    refine own_st (fun zw zk => XS.lor X26.here hx rfl (hb hby at_357) rfl zk) ?_
    refine own_st (fun zw zk => XS.lstore X26.here hx rfl (hb hby at_358) rfl rfl zk) ?_
    show own_Go p e below G (T26.setTop (mkF m 360 #[.val (.long q0), .second, .val (.long q1), .second, .val (.int p2), .val (.int p3), .val (.ref b2), .val (.int sn), .val (.int (3 : Int32)), .val (.long (((3 : Int64) <<< ((24 : Int32) &&& 0x3f).toInt64) ||| ((q0.toUInt64 >>> ((40 : Int32) &&& 0x3f).toInt64.toUInt64).toInt64))), .second] []))
    refine own_st (fun zw zk => XS.goto X26.here hx rfl (pc0 := 360) (pc' := 368) rfl (hb hby at_360) (by decide) (by decide) zk) ?_
    show own_Go p e below G (T26.setTop (mkF m 368 #[.val (.long q0), .second, .val (.long q1), .second, .val (.int p2), .val (.int p3), .val (.ref b2), .val (.int sn), .val (.int (3 : Int32)), .val (.long (((3 : Int64) <<< ((24 : Int32) &&& 0x3f).toInt64) ||| ((q0.toUInt64 >>> ((40 : Int32) &&& 0x3f).toInt64.toUInt64).toInt64))), .second] []))
    refine own_st (fun zw zk => XS.aload X26.here hx rfl (hb hby at_368) rfl rfl zk) ?_
    refine own_st (fun zw zk => XS.iload X26.here hx rfl (hb hby at_370) rfl zk) ?_
    refine own_st (fun zw zk => XS.iload X26.here hx rfl (hb hby at_372) rfl zk) ?_
    refine own_st (fun zw zk => XS.iload X26.here hx rfl (hb hby at_374) rfl zk) ?_
    refine own_st (fun zw zk => XS.iadd X26.here hx rfl (hb hby at_376) rfl zk) ?_
    have pq1 : (sn + (3 : Int32)).toInt = (ns + 3 : Nat) := own_addk 3 (by decide) (by decide) hns hns7
    have pq2 : ns ≤ ns + 3 := Nat.le_add_right _ _
    have pq3 : (ns + 3) - ns ≤ 7 := by rw [Nat.add_sub_cancel_left]; decide
    have pq4 : ns + 3 ≤ 16 := Nat.le_trans (Nat.add_le_add_right hns7 3) (by decide)
    have pq5 : q0.toBitVec.toNat < 2 ^ 64 := q0.toBitVec.isLt
    have pq6 := own_hget q0 hv0 hns7 (n := 3) (by decide)
    obtain ⟨_, _, ⟨T30, L30, k30, n30⟩, -, X30, ⟨Lc30, hQ30, l30, y30, z30⟩, st30⟩ := Jvm.LawKit.callS X26 hx (y := (⟨"com/example/passau/passau/drawing/IdList", "keyOf", "([BII)J"⟩ : MethodName)) hown (mvT hZ (hw _ (List.mem_of_getElem? (i := 3) rfl))) (mvT hZ (hw _ (List.mem_of_getElem? (i := 4) rfl))) (mvT hZ (hw _ (List.mem_of_getElem? (i := 5) rfl))) (mvT hZ (hw _ (List.mem_of_getElem? (i := 6) rfl))) (by decide) (backOf (W := 0) (rm1 l Z a0 hw [] b2 sn (sn + (3 : Int32)) (own_A8 q0 vs0 ns) q0.toBitVec.toNat ns (ns + 3) h26 n0 Z26 (VB8) (hns) (pq1) (pq2) (pq3) (pq4) (pq5) (pq6)) hZ (hw _ (List.mem_of_getElem? (i := 6) rfl)) (hw _ (List.mem_of_getElem? (i := 5) rfl)) (by decide) (by decide)) (g := (mkF m 377 #[.val (.long q0), .second, .val (.long q1), .second, .val (.int p2), .val (.int p3), .val (.ref b2), .val (.int sn), .val (.int (3 : Int32)), .val (.long (((3 : Int64) <<< ((24 : Int32) &&& 0x3f).toInt64) ||| ((q0.toUInt64 >>> ((40 : Int32) &&& 0x3f).toInt64.toUInt64).toInt64))), .second] [(.int (sn + (3 : Int32))), (.int sn), (.ref b2)])) rfl (by rw [hml]; rfl) (argsL := [(.ref b2), (.int sn), (.int (sn + (3 : Int32)))]) (rest := []) (lenOf pd_0 rfl) rfl (by show 2 * 0 + _ ≤ _; exact Nat.le_of_eq rfl) (hb hby at_377) (fun _ _ => ⟨rfl, e26, (by decide : 1 + 0 ≤ _), (by decide : 16 + 0 ≤ _)⟩)
    dsimp only [Pt.U, Pt.locs, Pt.cells, Pt.slots] at X30 l30 y30 z30 st30 hQ30
    rw [l30, y30, z30] at X30
    obtain ⟨rfl, N30q, e30⟩ := hQ30
    have N30 := Fr.app N26 N30q
    refine own_st (fun zw zk => st30 zw zk) ?_
    refine own_st (fun zw zk => XS.lload X30.here hx rfl (hb hby at_380) rfl zk) ?_
    refine own_st (fun zw zk => XS.lcmp X30.here hx rfl (hb hby at_382) rfl zk) ?_
    show own_Go p e below G (T30.setTop (mkF m 383 #[.val (.long q0), .second, .val (.long q1), .second, .val (.int p2), .val (.int p3), .val (.ref b2), .val (.int sn), .val (.int (3 : Int32)), .val (.long (((3 : Int64) <<< ((24 : Int32) &&& 0x3f).toInt64) ||| ((q0.toUInt64 >>> ((40 : Int32) &&& 0x3f).toInt64.toUInt64).toInt64))), .second] [(.int (lcmpW (own_key q0.toBitVec.toNat ((ns + 3) - ns)) (((3 : Int64) <<< ((24 : Int32) &&& 0x3f).toInt64) ||| ((q0.toUInt64 >>> ((40 : Int32) &&& 0x3f).toInt64.toUInt64).toInt64))))]))
    have hc383 : (own_key q0.toBitVec.toNat ((ns + 3) - ns)) = (((3 : Int64) <<< ((24 : Int32) &&& 0x3f).toInt64) ||| ((q0.toUInt64 >>> ((40 : Int32) &&& 0x3f).toInt64.toUInt64).toInt64)) := by rw [Nat.add_sub_cancel_left]; exact own_exp q0 3 (3 : Int64) (24 : Int32) (40 : Int32) (by decide) (by decide) (by decide) (by decide) (by decide)
    refine own_st (fun zw zk => XS.ifNo X30.here hx rfl (hb hby at_383) rfl ((if0 _ _).trans (teq (own_tle hc383)).2) zk) ?_
    refine own_st (fun zw zk => XS.iconst X30.here hx rfl (hb hby at_386) zk) ?_
    refine own_st (fun zw zk => XS.goto X30.here hx rfl (pc0 := 387) (pc' := 391) rfl (hb hby at_387) (by decide) (by decide) zk) ?_
    show own_Go p e below G (T30.setTop (mkF m 391 #[.val (.long q0), .second, .val (.long q1), .second, .val (.int p2), .val (.int p3), .val (.ref b2), .val (.int sn), .val (.int (3 : Int32)), .val (.long (((3 : Int64) <<< ((24 : Int32) &&& 0x3f).toInt64) ||| ((q0.toUInt64 >>> ((40 : Int32) &&& 0x3f).toInt64.toUInt64).toInt64))), .second] [(.int (1 : Int32))]))
    subst hG
    obtain ⟨fs, hr, hrun, hended, hW, hsame⟩ := X30.leave (v := some (.int (1 : Int32))) (hlocks := Bd.notSynchronized) (fun h => by rw [Bd.returns] at h; cases h)
    refine ⟨_, retN X30 hx (t := .boolean) Bd.returns (by simp) (hb hby at_391) hr, _, hrun, hended, _, _, rfl, ?_, ⟨_, rfl⟩, hW, hsame.mono (by decide) (by decide)⟩
    show Q0 Z q0 q1 p2 p3 h0 n0 _ T30.heap _
    rw [e30]
    exact ⟨rfl, N30⟩
  · show own_Go p e below G (T26.setTop (mkF m 320 #[.val (.long q0), .second, .val (.long q1), .second, .val (.int p2), .val (.int p3), .val (.ref b2), .val (.int sn), .val (.int ln), .unset, .unset] []))
    rw [show ln = (4 : Int32) from e0]
    refine own_st (fun zw zk => XS.iload X26.here hx rfl (hb hby at_320) rfl zk) ?_
    refine own_st (fun zw zk => XS.ifYes X26.here hx rfl (pc0 := 322) (pc' := 331) rfl (hb hby at_322) rfl ((if0 _ _).trans (feq (by decide : ¬ ((4 : Int32) = (0 : Int32)))).2) (by decide) (by decide) zk) ?_
    refine own_st (fun zw zk => XS.iload X26.here hx rfl (hb hby at_331) rfl zk) ?_
    refine own_st (fun zw zk => XS.bipush X26.here hx rfl (hb hby at_333) zk) ?_
    refine own_st (fun zw zk => XS.icmpNo X26.here hx rfl (hb hby at_335) rfl (flt (by decide : ¬ ((7 : Int32) < (4 : Int32)))).2.2.1 zk) ?_
    refine own_st (fun zw zk => XS.iload X26.here hx rfl (hb hby at_338) rfl zk) ?_
    refine own_st (fun zw zk => XS.i2l X26.here hx rfl (hb hby at_340) rfl zk) ?_
    refine own_st (fun zw zk => XS.bipush X26.here hx rfl (hb hby at_341) zk) ?_
    show own_Go p e below G (T26.setTop (mkF m 343 #[.val (.long q0), .second, .val (.long q1), .second, .val (.int p2), .val (.int p3), .val (.ref b2), .val (.int sn), .val (.int (4 : Int32)), .unset, .unset] [(.int (8 : Int32)), (.long (4 : Int64))]))
    refine own_st (fun zw zk => XS.iload X26.here hx rfl (hb hby at_343) rfl zk) ?_
    refine own_st (fun zw zk => XS.imul X26.here hx rfl (hb hby at_345) rfl zk) ?_
    refine own_st (fun zw zk => XS.lshl X26.here hx rfl (hb hby at_346) rfl zk) ?_
    refine own_st (fun zw zk => XS.lloadN X26.here hx rfl (hb hby at_347) rfl zk) ?_
    refine own_st (fun zw zk => XS.bipush X26.here hx rfl (hb hby at_348) zk) ?_
    refine own_st (fun zw zk => XS.bipush X26.here hx rfl (hb hby at_350) zk) ?_
    refine own_st (fun zw zk => XS.iload X26.here hx rfl (hb hby at_352) rfl zk) ?_
    refine own_st (fun zw zk => XS.imul X26.here hx rfl (hb hby at_354) rfl zk) ?_
    show own_Go p e below G (T26.setTop (mkF m 355 #[.val (.long q0), .second, .val (.long q1), .second, .val (.int p2), .val (.int p3), .val (.ref b2), .val (.int sn), .val (.int (4 : Int32)), .unset, .unset] [(.int (32 : Int32)), (.int (64 : Int32)), (.long q0), (.long ((4 : Int64) <<< ((32 : Int32) &&& 0x3f).toInt64))]))
    refine own_st (fun zw zk => XS.isub X26.here hx rfl (hb hby at_355) rfl zk) ?_
    refine own_st (fun zw zk => XS.lushr X26.here hx rfl (hb hby at_356) rfl zk) ?_
    refine own_st (fun zw zk => XS.lor X26.here hx rfl (hb hby at_357) rfl zk) ?_
    refine own_st (fun zw zk => XS.lstore X26.here hx rfl (hb hby at_358) rfl rfl zk) ?_
    show own_Go p e below G (T26.setTop (mkF m 360 #[.val (.long q0), .second, .val (.long q1), .second, .val (.int p2), .val (.int p3), .val (.ref b2), .val (.int sn), .val (.int (4 : Int32)), .val (.long (((4 : Int64) <<< ((32 : Int32) &&& 0x3f).toInt64) ||| ((q0.toUInt64 >>> ((32 : Int32) &&& 0x3f).toInt64.toUInt64).toInt64))), .second] []))
    refine own_st (fun zw zk => XS.goto X26.here hx rfl (pc0 := 360) (pc' := 368) rfl (hb hby at_360) (by decide) (by decide) zk) ?_
    show own_Go p e below G (T26.setTop (mkF m 368 #[.val (.long q0), .second, .val (.long q1), .second, .val (.int p2), .val (.int p3), .val (.ref b2), .val (.int sn), .val (.int (4 : Int32)), .val (.long (((4 : Int64) <<< ((32 : Int32) &&& 0x3f).toInt64) ||| ((q0.toUInt64 >>> ((32 : Int32) &&& 0x3f).toInt64.toUInt64).toInt64))), .second] []))
    refine own_st (fun zw zk => XS.aload X26.here hx rfl (hb hby at_368) rfl rfl zk) ?_
    refine own_st (fun zw zk => XS.iload X26.here hx rfl (hb hby at_370) rfl zk) ?_
    refine own_st (fun zw zk => XS.iload X26.here hx rfl (hb hby at_372) rfl zk) ?_
    refine own_st (fun zw zk => XS.iload X26.here hx rfl (hb hby at_374) rfl zk) ?_
    refine own_st (fun zw zk => XS.iadd X26.here hx rfl (hb hby at_376) rfl zk) ?_
    have pq1 : (sn + (4 : Int32)).toInt = (ns + 4 : Nat) := own_addk 4 (by decide) (by decide) hns hns7
    have pq2 : ns ≤ ns + 4 := Nat.le_add_right _ _
    have pq3 : (ns + 4) - ns ≤ 7 := by rw [Nat.add_sub_cancel_left]; decide
    have pq4 : ns + 4 ≤ 16 := Nat.le_trans (Nat.add_le_add_right hns7 4) (by decide)
    have pq5 : q0.toBitVec.toNat < 2 ^ 64 := q0.toBitVec.isLt
    have pq6 := own_hget q0 hv0 hns7 (n := 4) (by decide)
    obtain ⟨_, _, ⟨T31, L31, k31, n31⟩, -, X31, ⟨Lc31, hQ31, l31, y31, z31⟩, st31⟩ := Jvm.LawKit.callS X26 hx (y := (⟨"com/example/passau/passau/drawing/IdList", "keyOf", "([BII)J"⟩ : MethodName)) hown (mvT hZ (hw _ (List.mem_of_getElem? (i := 3) rfl))) (mvT hZ (hw _ (List.mem_of_getElem? (i := 4) rfl))) (mvT hZ (hw _ (List.mem_of_getElem? (i := 5) rfl))) (mvT hZ (hw _ (List.mem_of_getElem? (i := 6) rfl))) (by decide) (backOf (W := 0) (rm1 l Z a0 hw [] b2 sn (sn + (4 : Int32)) (own_A8 q0 vs0 ns) q0.toBitVec.toNat ns (ns + 4) h26 n0 Z26 (VB8) (hns) (pq1) (pq2) (pq3) (pq4) (pq5) (pq6)) hZ (hw _ (List.mem_of_getElem? (i := 6) rfl)) (hw _ (List.mem_of_getElem? (i := 5) rfl)) (by decide) (by decide)) (g := (mkF m 377 #[.val (.long q0), .second, .val (.long q1), .second, .val (.int p2), .val (.int p3), .val (.ref b2), .val (.int sn), .val (.int (4 : Int32)), .val (.long (((4 : Int64) <<< ((32 : Int32) &&& 0x3f).toInt64) ||| ((q0.toUInt64 >>> ((32 : Int32) &&& 0x3f).toInt64.toUInt64).toInt64))), .second] [(.int (sn + (4 : Int32))), (.int sn), (.ref b2)])) rfl (by rw [hml]; rfl) (argsL := [(.ref b2), (.int sn), (.int (sn + (4 : Int32)))]) (rest := []) (lenOf pd_0 rfl) rfl (by show 2 * 0 + _ ≤ _; exact Nat.le_of_eq rfl) (hb hby at_377) (fun _ _ => ⟨rfl, e26, (by decide : 1 + 0 ≤ _), (by decide : 16 + 0 ≤ _)⟩)
    dsimp only [Pt.U, Pt.locs, Pt.cells, Pt.slots] at X31 l31 y31 z31 st31 hQ31
    rw [l31, y31, z31] at X31
    obtain ⟨rfl, N31q, e31⟩ := hQ31
    have N31 := Fr.app N26 N31q
    refine own_st (fun zw zk => st31 zw zk) ?_
    refine own_st (fun zw zk => XS.lload X31.here hx rfl (hb hby at_380) rfl zk) ?_
    refine own_st (fun zw zk => XS.lcmp X31.here hx rfl (hb hby at_382) rfl zk) ?_
    show own_Go p e below G (T31.setTop (mkF m 383 #[.val (.long q0), .second, .val (.long q1), .second, .val (.int p2), .val (.int p3), .val (.ref b2), .val (.int sn), .val (.int (4 : Int32)), .val (.long (((4 : Int64) <<< ((32 : Int32) &&& 0x3f).toInt64) ||| ((q0.toUInt64 >>> ((32 : Int32) &&& 0x3f).toInt64.toUInt64).toInt64))), .second] [(.int (lcmpW (own_key q0.toBitVec.toNat ((ns + 4) - ns)) (((4 : Int64) <<< ((32 : Int32) &&& 0x3f).toInt64) ||| ((q0.toUInt64 >>> ((32 : Int32) &&& 0x3f).toInt64.toUInt64).toInt64))))]))
    have hc383 : (own_key q0.toBitVec.toNat ((ns + 4) - ns)) = (((4 : Int64) <<< ((32 : Int32) &&& 0x3f).toInt64) ||| ((q0.toUInt64 >>> ((32 : Int32) &&& 0x3f).toInt64.toUInt64).toInt64)) := by rw [Nat.add_sub_cancel_left]; exact own_exp q0 4 (4 : Int64) (32 : Int32) (32 : Int32) (by decide) (by decide) (by decide) (by decide) (by decide)
    refine own_st (fun zw zk => XS.ifNo X31.here hx rfl (hb hby at_383) rfl ((if0 _ _).trans (teq (own_tle hc383)).2) zk) ?_
    refine own_st (fun zw zk => XS.iconst X31.here hx rfl (hb hby at_386) zk) ?_
    refine own_st (fun zw zk => XS.goto X31.here hx rfl (pc0 := 387) (pc' := 391) rfl (hb hby at_387) (by decide) (by decide) zk) ?_
    show own_Go p e below G (T31.setTop (mkF m 391 #[.val (.long q0), .second, .val (.long q1), .second, .val (.int p2), .val (.int p3), .val (.ref b2), .val (.int sn), .val (.int (4 : Int32)), .val (.long (((4 : Int64) <<< ((32 : Int32) &&& 0x3f).toInt64) ||| ((q0.toUInt64 >>> ((32 : Int32) &&& 0x3f).toInt64.toUInt64).toInt64))), .second] [(.int (1 : Int32))]))
    subst hG
    obtain ⟨fs, hr, hrun, hended, hW, hsame⟩ := X31.leave (v := some (.int (1 : Int32))) (hlocks := Bd.notSynchronized) (fun h => by rw [Bd.returns] at h; cases h)
    refine ⟨_, retN X31 hx (t := .boolean) Bd.returns (by simp) (hb hby at_391) hr, _, hrun, hended, _, _, rfl, ?_, ⟨_, rfl⟩, hW, hsame.mono (by decide) (by decide)⟩
    show Q0 Z q0 q1 p2 p3 h0 n0 _ T31.heap _
    rw [e31]
    exact ⟨rfl, N31⟩
  · show own_Go p e below G (T26.setTop (mkF m 320 #[.val (.long q0), .second, .val (.long q1), .second, .val (.int p2), .val (.int p3), .val (.ref b2), .val (.int sn), .val (.int ln), .unset, .unset] []))
    rw [show ln = (5 : Int32) from e0]
    refine own_st (fun zw zk => XS.iload X26.here hx rfl (hb hby at_320) rfl zk) ?_
    refine own_st (fun zw zk => XS.ifYes X26.here hx rfl (pc0 := 322) (pc' := 331) rfl (hb hby at_322) rfl ((if0 _ _).trans (feq (by decide : ¬ ((5 : Int32) = (0 : Int32)))).2) (by decide) (by decide) zk) ?_
    refine own_st (fun zw zk => XS.iload X26.here hx rfl (hb hby at_331) rfl zk) ?_
    refine own_st (fun zw zk => XS.bipush X26.here hx rfl (hb hby at_333) zk) ?_
    refine own_st (fun zw zk => XS.icmpNo X26.here hx rfl (hb hby at_335) rfl (flt (by decide : ¬ ((7 : Int32) < (5 : Int32)))).2.2.1 zk) ?_
    refine own_st (fun zw zk => XS.iload X26.here hx rfl (hb hby at_338) rfl zk) ?_
    refine own_st (fun zw zk => XS.i2l X26.here hx rfl (hb hby at_340) rfl zk) ?_
    refine own_st (fun zw zk => XS.bipush X26.here hx rfl (hb hby at_341) zk) ?_
    show own_Go p e below G (T26.setTop (mkF m 343 #[.val (.long q0), .second, .val (.long q1), .second, .val (.int p2), .val (.int p3), .val (.ref b2), .val (.int sn), .val (.int (5 : Int32)), .unset, .unset] [(.int (8 : Int32)), (.long (5 : Int64))]))
    refine own_st (fun zw zk => XS.iload X26.here hx rfl (hb hby at_343) rfl zk) ?_
    refine own_st (fun zw zk => XS.imul X26.here hx rfl (hb hby at_345) rfl zk) ?_
    refine own_st (fun zw zk => XS.lshl X26.here hx rfl (hb hby at_346) rfl zk) ?_
    refine own_st (fun zw zk => XS.lloadN X26.here hx rfl (hb hby at_347) rfl zk) ?_
    refine own_st (fun zw zk => XS.bipush X26.here hx rfl (hb hby at_348) zk) ?_
    refine own_st (fun zw zk => XS.bipush X26.here hx rfl (hb hby at_350) zk) ?_
    refine own_st (fun zw zk => XS.iload X26.here hx rfl (hb hby at_352) rfl zk) ?_
    refine own_st (fun zw zk => XS.imul X26.here hx rfl (hb hby at_354) rfl zk) ?_
    show own_Go p e below G (T26.setTop (mkF m 355 #[.val (.long q0), .second, .val (.long q1), .second, .val (.int p2), .val (.int p3), .val (.ref b2), .val (.int sn), .val (.int (5 : Int32)), .unset, .unset] [(.int (40 : Int32)), (.int (64 : Int32)), (.long q0), (.long ((5 : Int64) <<< ((40 : Int32) &&& 0x3f).toInt64))]))
    refine own_st (fun zw zk => XS.isub X26.here hx rfl (hb hby at_355) rfl zk) ?_
    refine own_st (fun zw zk => XS.lushr X26.here hx rfl (hb hby at_356) rfl zk) ?_
    refine own_st (fun zw zk => XS.lor X26.here hx rfl (hb hby at_357) rfl zk) ?_
    refine own_st (fun zw zk => XS.lstore X26.here hx rfl (hb hby at_358) rfl rfl zk) ?_
    show own_Go p e below G (T26.setTop (mkF m 360 #[.val (.long q0), .second, .val (.long q1), .second, .val (.int p2), .val (.int p3), .val (.ref b2), .val (.int sn), .val (.int (5 : Int32)), .val (.long (((5 : Int64) <<< ((40 : Int32) &&& 0x3f).toInt64) ||| ((q0.toUInt64 >>> ((24 : Int32) &&& 0x3f).toInt64.toUInt64).toInt64))), .second] []))
    refine own_st (fun zw zk => XS.goto X26.here hx rfl (pc0 := 360) (pc' := 368) rfl (hb hby at_360) (by decide) (by decide) zk) ?_
    show own_Go p e below G (T26.setTop (mkF m 368 #[.val (.long q0), .second, .val (.long q1), .second, .val (.int p2), .val (.int p3), .val (.ref b2), .val (.int sn), .val (.int (5 : Int32)), .val (.long (((5 : Int64) <<< ((40 : Int32) &&& 0x3f).toInt64) ||| ((q0.toUInt64 >>> ((24 : Int32) &&& 0x3f).toInt64.toUInt64).toInt64))), .second] []))
    refine own_st (fun zw zk => XS.aload X26.here hx rfl (hb hby at_368) rfl rfl zk) ?_
    refine own_st (fun zw zk => XS.iload X26.here hx rfl (hb hby at_370) rfl zk) ?_
    refine own_st (fun zw zk => XS.iload X26.here hx rfl (hb hby at_372) rfl zk) ?_
    refine own_st (fun zw zk => XS.iload X26.here hx rfl (hb hby at_374) rfl zk) ?_
    refine own_st (fun zw zk => XS.iadd X26.here hx rfl (hb hby at_376) rfl zk) ?_
    have pq1 : (sn + (5 : Int32)).toInt = (ns + 5 : Nat) := own_addk 5 (by decide) (by decide) hns hns7
    have pq2 : ns ≤ ns + 5 := Nat.le_add_right _ _
    have pq3 : (ns + 5) - ns ≤ 7 := by rw [Nat.add_sub_cancel_left]; decide
    have pq4 : ns + 5 ≤ 16 := Nat.le_trans (Nat.add_le_add_right hns7 5) (by decide)
    have pq5 : q0.toBitVec.toNat < 2 ^ 64 := q0.toBitVec.isLt
    have pq6 := own_hget q0 hv0 hns7 (n := 5) (by decide)
    obtain ⟨_, _, ⟨T32, L32, k32, n32⟩, -, X32, ⟨Lc32, hQ32, l32, y32, z32⟩, st32⟩ := Jvm.LawKit.callS X26 hx (y := (⟨"com/example/passau/passau/drawing/IdList", "keyOf", "([BII)J"⟩ : MethodName)) hown (mvT hZ (hw _ (List.mem_of_getElem? (i := 3) rfl))) (mvT hZ (hw _ (List.mem_of_getElem? (i := 4) rfl))) (mvT hZ (hw _ (List.mem_of_getElem? (i := 5) rfl))) (mvT hZ (hw _ (List.mem_of_getElem? (i := 6) rfl))) (by decide) (backOf (W := 0) (rm1 l Z a0 hw [] b2 sn (sn + (5 : Int32)) (own_A8 q0 vs0 ns) q0.toBitVec.toNat ns (ns + 5) h26 n0 Z26 (VB8) (hns) (pq1) (pq2) (pq3) (pq4) (pq5) (pq6)) hZ (hw _ (List.mem_of_getElem? (i := 6) rfl)) (hw _ (List.mem_of_getElem? (i := 5) rfl)) (by decide) (by decide)) (g := (mkF m 377 #[.val (.long q0), .second, .val (.long q1), .second, .val (.int p2), .val (.int p3), .val (.ref b2), .val (.int sn), .val (.int (5 : Int32)), .val (.long (((5 : Int64) <<< ((40 : Int32) &&& 0x3f).toInt64) ||| ((q0.toUInt64 >>> ((24 : Int32) &&& 0x3f).toInt64.toUInt64).toInt64))), .second] [(.int (sn + (5 : Int32))), (.int sn), (.ref b2)])) rfl (by rw [hml]; rfl) (argsL := [(.ref b2), (.int sn), (.int (sn + (5 : Int32)))]) (rest := []) (lenOf pd_0 rfl) rfl (by show 2 * 0 + _ ≤ _; exact Nat.le_of_eq rfl) (hb hby at_377) (fun _ _ => ⟨rfl, e26, (by decide : 1 + 0 ≤ _), (by decide : 16 + 0 ≤ _)⟩)
    dsimp only [Pt.U, Pt.locs, Pt.cells, Pt.slots] at X32 l32 y32 z32 st32 hQ32
    rw [l32, y32, z32] at X32
    obtain ⟨rfl, N32q, e32⟩ := hQ32
    have N32 := Fr.app N26 N32q
    refine own_st (fun zw zk => st32 zw zk) ?_
    refine own_st (fun zw zk => XS.lload X32.here hx rfl (hb hby at_380) rfl zk) ?_
    refine own_st (fun zw zk => XS.lcmp X32.here hx rfl (hb hby at_382) rfl zk) ?_
    show own_Go p e below G (T32.setTop (mkF m 383 #[.val (.long q0), .second, .val (.long q1), .second, .val (.int p2), .val (.int p3), .val (.ref b2), .val (.int sn), .val (.int (5 : Int32)), .val (.long (((5 : Int64) <<< ((40 : Int32) &&& 0x3f).toInt64) ||| ((q0.toUInt64 >>> ((24 : Int32) &&& 0x3f).toInt64.toUInt64).toInt64))), .second] [(.int (lcmpW (own_key q0.toBitVec.toNat ((ns + 5) - ns)) (((5 : Int64) <<< ((40 : Int32) &&& 0x3f).toInt64) ||| ((q0.toUInt64 >>> ((24 : Int32) &&& 0x3f).toInt64.toUInt64).toInt64))))]))
    have hc383 : (own_key q0.toBitVec.toNat ((ns + 5) - ns)) = (((5 : Int64) <<< ((40 : Int32) &&& 0x3f).toInt64) ||| ((q0.toUInt64 >>> ((24 : Int32) &&& 0x3f).toInt64.toUInt64).toInt64)) := by rw [Nat.add_sub_cancel_left]; exact own_exp q0 5 (5 : Int64) (40 : Int32) (24 : Int32) (by decide) (by decide) (by decide) (by decide) (by decide)
    refine own_st (fun zw zk => XS.ifNo X32.here hx rfl (hb hby at_383) rfl ((if0 _ _).trans (teq (own_tle hc383)).2) zk) ?_
    refine own_st (fun zw zk => XS.iconst X32.here hx rfl (hb hby at_386) zk) ?_
    refine own_st (fun zw zk => XS.goto X32.here hx rfl (pc0 := 387) (pc' := 391) rfl (hb hby at_387) (by decide) (by decide) zk) ?_
    show own_Go p e below G (T32.setTop (mkF m 391 #[.val (.long q0), .second, .val (.long q1), .second, .val (.int p2), .val (.int p3), .val (.ref b2), .val (.int sn), .val (.int (5 : Int32)), .val (.long (((5 : Int64) <<< ((40 : Int32) &&& 0x3f).toInt64) ||| ((q0.toUInt64 >>> ((24 : Int32) &&& 0x3f).toInt64.toUInt64).toInt64))), .second] [(.int (1 : Int32))]))
    subst hG
    obtain ⟨fs, hr, hrun, hended, hW, hsame⟩ := X32.leave (v := some (.int (1 : Int32))) (hlocks := Bd.notSynchronized) (fun h => by rw [Bd.returns] at h; cases h)
    refine ⟨_, retN X32 hx (t := .boolean) Bd.returns (by simp) (hb hby at_391) hr, _, hrun, hended, _, _, rfl, ?_, ⟨_, rfl⟩, hW, hsame.mono (by decide) (by decide)⟩
    show Q0 Z q0 q1 p2 p3 h0 n0 _ T32.heap _
    rw [e32]
    exact ⟨rfl, N32⟩
  · show own_Go p e below G (T26.setTop (mkF m 320 #[.val (.long q0), .second, .val (.long q1), .second, .val (.int p2), .val (.int p3), .val (.ref b2), .val (.int sn), .val (.int ln), .unset, .unset] []))
    rw [show ln = (6 : Int32) from e0]
    refine own_st (fun zw zk => XS.iload X26.here hx rfl (hb hby at_320) rfl zk) ?_
    refine own_st (fun zw zk => XS.ifYes X26.here hx rfl (pc0 := 322) (pc' := 331) rfl (hb hby at_322) rfl ((if0 _ _).trans (feq (by decide : ¬ ((6 : Int32) = (0 : Int32)))).2) (by decide) (by decide) zk) ?_
    refine own_st (fun zw zk => XS.iload X26.here hx rfl (hb hby at_331) rfl zk) ?_
    refine own_st (fun zw zk => XS.bipush X26.here hx rfl (hb hby at_333) zk) ?_
    refine own_st (fun zw zk => XS.icmpNo X26.here hx rfl (hb hby at_335) rfl (flt (by decide : ¬ ((7 : Int32) < (6 : Int32)))).2.2.1 zk) ?_
    refine own_st (fun zw zk => XS.iload X26.here hx rfl (hb hby at_338) rfl zk) ?_
    refine own_st (fun zw zk => XS.i2l X26.here hx rfl (hb hby at_340) rfl zk) ?_
    refine own_st (fun zw zk => XS.bipush X26.here hx rfl (hb hby at_341) zk) ?_
    show own_Go p e below G (T26.setTop (mkF m 343 #[.val (.long q0), .second, .val (.long q1), .second, .val (.int p2), .val (.int p3), .val (.ref b2), .val (.int sn), .val (.int (6 : Int32)), .unset, .unset] [(.int (8 : Int32)), (.long (6 : Int64))]))
    refine own_st (fun zw zk => XS.iload X26.here hx rfl (hb hby at_343) rfl zk) ?_
    refine own_st (fun zw zk => XS.imul X26.here hx rfl (hb hby at_345) rfl zk) ?_
    refine own_st (fun zw zk => XS.lshl X26.here hx rfl (hb hby at_346) rfl zk) ?_
    refine own_st (fun zw zk => XS.lloadN X26.here hx rfl (hb hby at_347) rfl zk) ?_
    refine own_st (fun zw zk => XS.bipush X26.here hx rfl (hb hby at_348) zk) ?_
    refine own_st (fun zw zk => XS.bipush X26.here hx rfl (hb hby at_350) zk) ?_
    refine own_st (fun zw zk => XS.iload X26.here hx rfl (hb hby at_352) rfl zk) ?_
    refine own_st (fun zw zk => XS.imul X26.here hx rfl (hb hby at_354) rfl zk) ?_
    show own_Go p e below G (T26.setTop (mkF m 355 #[.val (.long q0), .second, .val (.long q1), .second, .val (.int p2), .val (.int p3), .val (.ref b2), .val (.int sn), .val (.int (6 : Int32)), .unset, .unset] [(.int (48 : Int32)), (.int (64 : Int32)), (.long q0), (.long ((6 : Int64) <<< ((48 : Int32) &&& 0x3f).toInt64))]))
    refine own_st (fun zw zk => XS.isub X26.here hx rfl (hb hby at_355) rfl zk) ?_
    refine own_st (fun zw zk => XS.lushr X26.here hx rfl (hb hby at_356) rfl zk) ?_
    refine own_st (fun zw zk => XS.lor X26.here hx rfl (hb hby at_357) rfl zk) ?_
    refine own_st (fun zw zk => XS.lstore X26.here hx rfl (hb hby at_358) rfl rfl zk) ?_
    show own_Go p e below G (T26.setTop (mkF m 360 #[.val (.long q0), .second, .val (.long q1), .second, .val (.int p2), .val (.int p3), .val (.ref b2), .val (.int sn), .val (.int (6 : Int32)), .val (.long (((6 : Int64) <<< ((48 : Int32) &&& 0x3f).toInt64) ||| ((q0.toUInt64 >>> ((16 : Int32) &&& 0x3f).toInt64.toUInt64).toInt64))), .second] []))
    refine own_st (fun zw zk => XS.goto X26.here hx rfl (pc0 := 360) (pc' := 368) rfl (hb hby at_360) (by decide) (by decide) zk) ?_
    show own_Go p e below G (T26.setTop (mkF m 368 #[.val (.long q0), .second, .val (.long q1), .second, .val (.int p2), .val (.int p3), .val (.ref b2), .val (.int sn), .val (.int (6 : Int32)), .val (.long (((6 : Int64) <<< ((48 : Int32) &&& 0x3f).toInt64) ||| ((q0.toUInt64 >>> ((16 : Int32) &&& 0x3f).toInt64.toUInt64).toInt64))), .second] []))
    refine own_st (fun zw zk => XS.aload X26.here hx rfl (hb hby at_368) rfl rfl zk) ?_
    refine own_st (fun zw zk => XS.iload X26.here hx rfl (hb hby at_370) rfl zk) ?_
    refine own_st (fun zw zk => XS.iload X26.here hx rfl (hb hby at_372) rfl zk) ?_
    refine own_st (fun zw zk => XS.iload X26.here hx rfl (hb hby at_374) rfl zk) ?_
    refine own_st (fun zw zk => XS.iadd X26.here hx rfl (hb hby at_376) rfl zk) ?_
    have pq1 : (sn + (6 : Int32)).toInt = (ns + 6 : Nat) := own_addk 6 (by decide) (by decide) hns hns7
    have pq2 : ns ≤ ns + 6 := Nat.le_add_right _ _
    have pq3 : (ns + 6) - ns ≤ 7 := by rw [Nat.add_sub_cancel_left]; decide
    have pq4 : ns + 6 ≤ 16 := Nat.le_trans (Nat.add_le_add_right hns7 6) (by decide)
    have pq5 : q0.toBitVec.toNat < 2 ^ 64 := q0.toBitVec.isLt
    have pq6 := own_hget q0 hv0 hns7 (n := 6) (by decide)
    obtain ⟨_, _, ⟨T33, L33, k33, n33⟩, -, X33, ⟨Lc33, hQ33, l33, y33, z33⟩, st33⟩ := Jvm.LawKit.callS X26 hx (y := (⟨"com/example/passau/passau/drawing/IdList", "keyOf", "([BII)J"⟩ : MethodName)) hown (mvT hZ (hw _ (List.mem_of_getElem? (i := 3) rfl))) (mvT hZ (hw _ (List.mem_of_getElem? (i := 4) rfl))) (mvT hZ (hw _ (List.mem_of_getElem? (i := 5) rfl))) (mvT hZ (hw _ (List.mem_of_getElem? (i := 6) rfl))) (by decide) (backOf (W := 0) (rm1 l Z a0 hw [] b2 sn (sn + (6 : Int32)) (own_A8 q0 vs0 ns) q0.toBitVec.toNat ns (ns + 6) h26 n0 Z26 (VB8) (hns) (pq1) (pq2) (pq3) (pq4) (pq5) (pq6)) hZ (hw _ (List.mem_of_getElem? (i := 6) rfl)) (hw _ (List.mem_of_getElem? (i := 5) rfl)) (by decide) (by decide)) (g := (mkF m 377 #[.val (.long q0), .second, .val (.long q1), .second, .val (.int p2), .val (.int p3), .val (.ref b2), .val (.int sn), .val (.int (6 : Int32)), .val (.long (((6 : Int64) <<< ((48 : Int32) &&& 0x3f).toInt64) ||| ((q0.toUInt64 >>> ((16 : Int32) &&& 0x3f).toInt64.toUInt64).toInt64))), .second] [(.int (sn + (6 : Int32))), (.int sn), (.ref b2)])) rfl (by rw [hml]; rfl) (argsL := [(.ref b2), (.int sn), (.int (sn + (6 : Int32)))]) (rest := []) (lenOf pd_0 rfl) rfl (by show 2 * 0 + _ ≤ _; exact Nat.le_of_eq rfl) (hb hby at_377) (fun _ _ => ⟨rfl, e26, (by decide : 1 + 0 ≤ _), (by decide : 16 + 0 ≤ _)⟩)
    dsimp only [Pt.U, Pt.locs, Pt.cells, Pt.slots] at X33 l33 y33 z33 st33 hQ33
    rw [l33, y33, z33] at X33
    obtain ⟨rfl, N33q, e33⟩ := hQ33
    have N33 := Fr.app N26 N33q
    refine own_st (fun zw zk => st33 zw zk) ?_
    refine own_st (fun zw zk => XS.lload X33.here hx rfl (hb hby at_380) rfl zk) ?_
    refine own_st (fun zw zk => XS.lcmp X33.here hx rfl (hb hby at_382) rfl zk) ?_
    show own_Go p e below G (T33.setTop (mkF m 383 #[.val (.long q0), .second, .val (.long q1), .second, .val (.int p2), .val (.int p3), .val (.ref b2), .val (.int sn), .val (.int (6 : Int32)), .val (.long (((6 : Int64) <<< ((48 : Int32) &&& 0x3f).toInt64) ||| ((q0.toUInt64 >>> ((16 : Int32) &&& 0x3f).toInt64.toUInt64).toInt64))), .second] [(.int (lcmpW (own_key q0.toBitVec.toNat ((ns + 6) - ns)) (((6 : Int64) <<< ((48 : Int32) &&& 0x3f).toInt64) ||| ((q0.toUInt64 >>> ((16 : Int32) &&& 0x3f).toInt64.toUInt64).toInt64))))]))
    have hc383 : (own_key q0.toBitVec.toNat ((ns + 6) - ns)) = (((6 : Int64) <<< ((48 : Int32) &&& 0x3f).toInt64) ||| ((q0.toUInt64 >>> ((16 : Int32) &&& 0x3f).toInt64.toUInt64).toInt64)) := by rw [Nat.add_sub_cancel_left]; exact own_exp q0 6 (6 : Int64) (48 : Int32) (16 : Int32) (by decide) (by decide) (by decide) (by decide) (by decide)
    refine own_st (fun zw zk => XS.ifNo X33.here hx rfl (hb hby at_383) rfl ((if0 _ _).trans (teq (own_tle hc383)).2) zk) ?_
    refine own_st (fun zw zk => XS.iconst X33.here hx rfl (hb hby at_386) zk) ?_
    refine own_st (fun zw zk => XS.goto X33.here hx rfl (pc0 := 387) (pc' := 391) rfl (hb hby at_387) (by decide) (by decide) zk) ?_
    show own_Go p e below G (T33.setTop (mkF m 391 #[.val (.long q0), .second, .val (.long q1), .second, .val (.int p2), .val (.int p3), .val (.ref b2), .val (.int sn), .val (.int (6 : Int32)), .val (.long (((6 : Int64) <<< ((48 : Int32) &&& 0x3f).toInt64) ||| ((q0.toUInt64 >>> ((16 : Int32) &&& 0x3f).toInt64.toUInt64).toInt64))), .second] [(.int (1 : Int32))]))
    subst hG
    obtain ⟨fs, hr, hrun, hended, hW, hsame⟩ := X33.leave (v := some (.int (1 : Int32))) (hlocks := Bd.notSynchronized) (fun h => by rw [Bd.returns] at h; cases h)
    refine ⟨_, retN X33 hx (t := .boolean) Bd.returns (by simp) (hb hby at_391) hr, _, hrun, hended, _, _, rfl, ?_, ⟨_, rfl⟩, hW, hsame.mono (by decide) (by decide)⟩
    show Q0 Z q0 q1 p2 p3 h0 n0 _ T33.heap _
    rw [e33]
    exact ⟨rfl, N33⟩
  · show own_Go p e below G (T26.setTop (mkF m 320 #[.val (.long q0), .second, .val (.long q1), .second, .val (.int p2), .val (.int p3), .val (.ref b2), .val (.int sn), .val (.int ln), .unset, .unset] []))
    rw [show ln = (7 : Int32) from e0]
    refine own_st (fun zw zk => XS.iload X26.here hx rfl (hb hby at_320) rfl zk) ?_
    refine own_st (fun zw zk => XS.ifYes X26.here hx rfl (pc0 := 322) (pc' := 331) rfl (hb hby at_322) rfl ((if0 _ _).trans (feq (by decide : ¬ ((7 : Int32) = (0 : Int32)))).2) (by decide) (by decide) zk) ?_
    refine own_st (fun zw zk => XS.iload X26.here hx rfl (hb hby at_331) rfl zk) ?_
    refine own_st (fun zw zk => XS.bipush X26.here hx rfl (hb hby at_333) zk) ?_
    refine own_st (fun zw zk => XS.icmpNo X26.here hx rfl (hb hby at_335) rfl (flt (by decide : ¬ ((7 : Int32) < (7 : Int32)))).2.2.1 zk) ?_
    refine own_st (fun zw zk => XS.iload X26.here hx rfl (hb hby at_338) rfl zk) ?_
    refine own_st (fun zw zk => XS.i2l X26.here hx rfl (hb hby at_340) rfl zk) ?_
    refine own_st (fun zw zk => XS.bipush X26.here hx rfl (hb hby at_341) zk) ?_
    show own_Go p e below G (T26.setTop (mkF m 343 #[.val (.long q0), .second, .val (.long q1), .second, .val (.int p2), .val (.int p3), .val (.ref b2), .val (.int sn), .val (.int (7 : Int32)), .unset, .unset] [(.int (8 : Int32)), (.long (7 : Int64))]))
    refine own_st (fun zw zk => XS.iload X26.here hx rfl (hb hby at_343) rfl zk) ?_
    refine own_st (fun zw zk => XS.imul X26.here hx rfl (hb hby at_345) rfl zk) ?_
    refine own_st (fun zw zk => XS.lshl X26.here hx rfl (hb hby at_346) rfl zk) ?_
    refine own_st (fun zw zk => XS.lloadN X26.here hx rfl (hb hby at_347) rfl zk) ?_
    refine own_st (fun zw zk => XS.bipush X26.here hx rfl (hb hby at_348) zk) ?_
    refine own_st (fun zw zk => XS.bipush X26.here hx rfl (hb hby at_350) zk) ?_
    refine own_st (fun zw zk => XS.iload X26.here hx rfl (hb hby at_352) rfl zk) ?_
    refine own_st (fun zw zk => XS.imul X26.here hx rfl (hb hby at_354) rfl zk) ?_
    show own_Go p e below G (T26.setTop (mkF m 355 #[.val (.long q0), .second, .val (.long q1), .second, .val (.int p2), .val (.int p3), .val (.ref b2), .val (.int sn), .val (.int (7 : Int32)), .unset, .unset] [(.int (56 : Int32)), (.int (64 : Int32)), (.long q0), (.long ((7 : Int64) <<< ((56 : Int32) &&& 0x3f).toInt64))]))
    refine own_st (fun zw zk => XS.isub X26.here hx rfl (hb hby at_355) rfl zk) ?_
    refine own_st (fun zw zk => XS.lushr X26.here hx rfl (hb hby at_356) rfl zk) ?_
    refine own_st (fun zw zk => XS.lor X26.here hx rfl (hb hby at_357) rfl zk) ?_
    refine own_st (fun zw zk => XS.lstore X26.here hx rfl (hb hby at_358) rfl rfl zk) ?_
    show own_Go p e below G (T26.setTop (mkF m 360 #[.val (.long q0), .second, .val (.long q1), .second, .val (.int p2), .val (.int p3), .val (.ref b2), .val (.int sn), .val (.int (7 : Int32)), .val (.long (((7 : Int64) <<< ((56 : Int32) &&& 0x3f).toInt64) ||| ((q0.toUInt64 >>> ((8 : Int32) &&& 0x3f).toInt64.toUInt64).toInt64))), .second] []))
    refine own_st (fun zw zk => XS.goto X26.here hx rfl (pc0 := 360) (pc' := 368) rfl (hb hby at_360) (by decide) (by decide) zk) ?_
    show own_Go p e below G (T26.setTop (mkF m 368 #[.val (.long q0), .second, .val (.long q1), .second, .val (.int p2), .val (.int p3), .val (.ref b2), .val (.int sn), .val (.int (7 : Int32)), .val (.long (((7 : Int64) <<< ((56 : Int32) &&& 0x3f).toInt64) ||| ((q0.toUInt64 >>> ((8 : Int32) &&& 0x3f).toInt64.toUInt64).toInt64))), .second] []))
    refine own_st (fun zw zk => XS.aload X26.here hx rfl (hb hby at_368) rfl rfl zk) ?_
    refine own_st (fun zw zk => XS.iload X26.here hx rfl (hb hby at_370) rfl zk) ?_
    refine own_st (fun zw zk => XS.iload X26.here hx rfl (hb hby at_372) rfl zk) ?_
    refine own_st (fun zw zk => XS.iload X26.here hx rfl (hb hby at_374) rfl zk) ?_
    refine own_st (fun zw zk => XS.iadd X26.here hx rfl (hb hby at_376) rfl zk) ?_
    have pq1 : (sn + (7 : Int32)).toInt = (ns + 7 : Nat) := own_addk 7 (by decide) (by decide) hns hns7
    have pq2 : ns ≤ ns + 7 := Nat.le_add_right _ _
    have pq3 : (ns + 7) - ns ≤ 7 := by rw [Nat.add_sub_cancel_left]; decide
    have pq4 : ns + 7 ≤ 16 := Nat.le_trans (Nat.add_le_add_right hns7 7) (by decide)
    have pq5 : q0.toBitVec.toNat < 2 ^ 64 := q0.toBitVec.isLt
    have pq6 := own_hget q0 hv0 hns7 (n := 7) (by decide)
    obtain ⟨_, _, ⟨T34, L34, k34, n34⟩, -, X34, ⟨Lc34, hQ34, l34, y34, z34⟩, st34⟩ := Jvm.LawKit.callS X26 hx (y := (⟨"com/example/passau/passau/drawing/IdList", "keyOf", "([BII)J"⟩ : MethodName)) hown (mvT hZ (hw _ (List.mem_of_getElem? (i := 3) rfl))) (mvT hZ (hw _ (List.mem_of_getElem? (i := 4) rfl))) (mvT hZ (hw _ (List.mem_of_getElem? (i := 5) rfl))) (mvT hZ (hw _ (List.mem_of_getElem? (i := 6) rfl))) (by decide) (backOf (W := 0) (rm1 l Z a0 hw [] b2 sn (sn + (7 : Int32)) (own_A8 q0 vs0 ns) q0.toBitVec.toNat ns (ns + 7) h26 n0 Z26 (VB8) (hns) (pq1) (pq2) (pq3) (pq4) (pq5) (pq6)) hZ (hw _ (List.mem_of_getElem? (i := 6) rfl)) (hw _ (List.mem_of_getElem? (i := 5) rfl)) (by decide) (by decide)) (g := (mkF m 377 #[.val (.long q0), .second, .val (.long q1), .second, .val (.int p2), .val (.int p3), .val (.ref b2), .val (.int sn), .val (.int (7 : Int32)), .val (.long (((7 : Int64) <<< ((56 : Int32) &&& 0x3f).toInt64) ||| ((q0.toUInt64 >>> ((8 : Int32) &&& 0x3f).toInt64.toUInt64).toInt64))), .second] [(.int (sn + (7 : Int32))), (.int sn), (.ref b2)])) rfl (by rw [hml]; rfl) (argsL := [(.ref b2), (.int sn), (.int (sn + (7 : Int32)))]) (rest := []) (lenOf pd_0 rfl) rfl (by show 2 * 0 + _ ≤ _; exact Nat.le_of_eq rfl) (hb hby at_377) (fun _ _ => ⟨rfl, e26, (by decide : 1 + 0 ≤ _), (by decide : 16 + 0 ≤ _)⟩)
    dsimp only [Pt.U, Pt.locs, Pt.cells, Pt.slots] at X34 l34 y34 z34 st34 hQ34
    rw [l34, y34, z34] at X34
    obtain ⟨rfl, N34q, e34⟩ := hQ34
    have N34 := Fr.app N26 N34q
    refine own_st (fun zw zk => st34 zw zk) ?_
    refine own_st (fun zw zk => XS.lload X34.here hx rfl (hb hby at_380) rfl zk) ?_
    refine own_st (fun zw zk => XS.lcmp X34.here hx rfl (hb hby at_382) rfl zk) ?_
    show own_Go p e below G (T34.setTop (mkF m 383 #[.val (.long q0), .second, .val (.long q1), .second, .val (.int p2), .val (.int p3), .val (.ref b2), .val (.int sn), .val (.int (7 : Int32)), .val (.long (((7 : Int64) <<< ((56 : Int32) &&& 0x3f).toInt64) ||| ((q0.toUInt64 >>> ((8 : Int32) &&& 0x3f).toInt64.toUInt64).toInt64))), .second] [(.int (lcmpW (own_key q0.toBitVec.toNat ((ns + 7) - ns)) (((7 : Int64) <<< ((56 : Int32) &&& 0x3f).toInt64) ||| ((q0.toUInt64 >>> ((8 : Int32) &&& 0x3f).toInt64.toUInt64).toInt64))))]))
    have hc383 : (own_key q0.toBitVec.toNat ((ns + 7) - ns)) = (((7 : Int64) <<< ((56 : Int32) &&& 0x3f).toInt64) ||| ((q0.toUInt64 >>> ((8 : Int32) &&& 0x3f).toInt64.toUInt64).toInt64)) := by rw [Nat.add_sub_cancel_left]; exact own_exp q0 7 (7 : Int64) (56 : Int32) (8 : Int32) (by decide) (by decide) (by decide) (by decide) (by decide)
    refine own_st (fun zw zk => XS.ifNo X34.here hx rfl (hb hby at_383) rfl ((if0 _ _).trans (teq (own_tle hc383)).2) zk) ?_
    refine own_st (fun zw zk => XS.iconst X34.here hx rfl (hb hby at_386) zk) ?_
    refine own_st (fun zw zk => XS.goto X34.here hx rfl (pc0 := 387) (pc' := 391) rfl (hb hby at_387) (by decide) (by decide) zk) ?_
    show own_Go p e below G (T34.setTop (mkF m 391 #[.val (.long q0), .second, .val (.long q1), .second, .val (.int p2), .val (.int p3), .val (.ref b2), .val (.int sn), .val (.int (7 : Int32)), .val (.long (((7 : Int64) <<< ((56 : Int32) &&& 0x3f).toInt64) ||| ((q0.toUInt64 >>> ((8 : Int32) &&& 0x3f).toInt64.toUInt64).toInt64))), .second] [(.int (1 : Int32))]))
    subst hG
    obtain ⟨fs, hr, hrun, hended, hW, hsame⟩ := X34.leave (v := some (.int (1 : Int32))) (hlocks := Bd.notSynchronized) (fun h => by rw [Bd.returns] at h; cases h)
    refine ⟨_, retN X34 hx (t := .boolean) Bd.returns (by simp) (hb hby at_391) hr, _, hrun, hended, _, _, rfl, ?_, ⟨_, rfl⟩, hW, hsame.mono (by decide) (by decide)⟩
    show Q0 Z q0 q1 p2 p3 h0 n0 _ T34.heap _
    rw [e34]
    exact ⟨rfl, N34⟩
  · show own_Go p e below G (T26.setTop (mkF m 320 #[.val (.long q0), .second, .val (.long q1), .second, .val (.int p2), .val (.int p3), .val (.ref b2), .val (.int sn), .val (.int ln), .unset, .unset] []))
    rw [show ln = (8 : Int32) from e0]
    refine own_st (fun zw zk => XS.iload X26.here hx rfl (hb hby at_320) rfl zk) ?_
    refine own_st (fun zw zk => XS.ifYes X26.here hx rfl (pc0 := 322) (pc' := 331) rfl (hb hby at_322) rfl ((if0 _ _).trans (feq (by decide : ¬ ((8 : Int32) = (0 : Int32)))).2) (by decide) (by decide) zk) ?_
    refine own_st (fun zw zk => XS.iload X26.here hx rfl (hb hby at_331) rfl zk) ?_
    refine own_st (fun zw zk => XS.bipush X26.here hx rfl (hb hby at_333) zk) ?_
    refine own_st (fun zw zk => XS.icmpYes X26.here hx rfl (pc0 := 335) (pc' := 363) rfl (hb hby at_335) rfl (tlt (by decide : (7 : Int32) < (8 : Int32))).2.2.1 (by decide) (by decide) zk) ?_
    refine own_st (fun zw zk => X26.ldc2Long hx hown (mvT hZ (hw _ (List.mem_of_getElem? (i := 1) rfl))) (g := (mkF m 363 #[.val (.long q0), .second, .val (.long q1), .second, .val (.int p2), .val (.int p3), .val (.ref b2), .val (.int sn), .val (.int (8 : Int32)), .unset, .unset] [])) rfl (hb hby at_363) _ zk) ?_
    refine own_st (fun zw zk => XS.lstore X26.here hx rfl (hb hby at_366) rfl rfl zk) ?_
    show own_Go p e below G (T26.setTop (mkF m 368 #[.val (.long q0), .second, .val (.long q1), .second, .val (.int p2), .val (.int p3), .val (.ref b2), .val (.int sn), .val (.int (8 : Int32)), .val (.long (-1 : Int64)), .second] []))
    refine own_st (fun zw zk => XS.aload X26.here hx rfl (hb hby at_368) rfl rfl zk) ?_
    refine own_st (fun zw zk => XS.iload X26.here hx rfl (hb hby at_370) rfl zk) ?_
    refine own_st (fun zw zk => XS.iload X26.here hx rfl (hb hby at_372) rfl zk) ?_
    refine own_st (fun zw zk => XS.iload X26.here hx rfl (hb hby at_374) rfl zk) ?_
    refine own_st (fun zw zk => XS.iadd X26.here hx rfl (hb hby at_376) rfl zk) ?_
    obtain ⟨_, _, ⟨T35, L35, k35, n35⟩, -, X35, ⟨Lc35, hQ35, l35, y35, z35⟩, st35⟩ := Jvm.LawKit.callS X26 hx (y := (⟨"com/example/passau/passau/drawing/IdList", "keyOf", "([BII)J"⟩ : MethodName)) hown (mvT hZ (hw _ (List.mem_of_getElem? (i := 3) rfl))) (mvT hZ (hw _ (List.mem_of_getElem? (i := 4) rfl))) (mvT hZ (hw _ (List.mem_of_getElem? (i := 5) rfl))) (mvT hZ (hw _ (List.mem_of_getElem? (i := 6) rfl))) (by decide) (backOf (W := 0) (rm1b l Z a0 hw [] b2 sn (sn + (8 : Int32)) h26 n0 Z26 (own_gt7 hns (own_addk 8 (by decide) (by decide) hns hns7) (Nat.le_add_right _ _) (by omega))) hZ (hw _ (List.mem_of_getElem? (i := 6) rfl)) (hw _ (List.mem_of_getElem? (i := 5) rfl)) (by decide) (by decide)) (g := (mkF m 377 #[.val (.long q0), .second, .val (.long q1), .second, .val (.int p2), .val (.int p3), .val (.ref b2), .val (.int sn), .val (.int (8 : Int32)), .val (.long (-1 : Int64)), .second] [(.int (sn + (8 : Int32))), (.int sn), (.ref b2)])) rfl (by rw [hml]; rfl) (argsL := [(.ref b2), (.int sn), (.int (sn + (8 : Int32)))]) (rest := []) (lenOf pd_0 rfl) rfl (by show 2 * 0 + _ ≤ _; exact Nat.le_of_eq rfl) (hb hby at_377) (fun _ _ => ⟨rfl, e26, (by decide : 1 + 0 ≤ _), (by decide : 16 + 0 ≤ _)⟩)
    dsimp only [Pt.U, Pt.locs, Pt.cells, Pt.slots] at X35 l35 y35 z35 st35 hQ35
    rw [l35, y35, z35] at X35
    obtain ⟨rfl, N35q, e35⟩ := hQ35
    have N35 := Fr.app N26 N35q
    refine own_st (fun zw zk => st35 zw zk) ?_
    refine own_st (fun zw zk => XS.lload X35.here hx rfl (hb hby at_380) rfl zk) ?_
    refine own_st (fun zw zk => XS.lcmp X35.here hx rfl (hb hby at_382) rfl zk) ?_
    show own_Go p e below G (T35.setTop (mkF m 383 #[.val (.long q0), .second, .val (.long q1), .second, .val (.int p2), .val (.int p3), .val (.ref b2), .val (.int sn), .val (.int (8 : Int32)), .val (.long (-1 : Int64)), .second] [(.int (lcmpW (-1 : Int64) (-1 : Int64)))]))
    refine own_st (fun zw zk => XS.ifNo X35.here hx rfl (hb hby at_383) rfl ((if0 _ _).trans (teq (own_tle (by decide : (-1 : Int64) = (-1 : Int64)))).2) zk) ?_
    refine own_st (fun zw zk => XS.iconst X35.here hx rfl (hb hby at_386) zk) ?_
    refine own_st (fun zw zk => XS.goto X35.here hx rfl (pc0 := 387) (pc' := 391) rfl (hb hby at_387) (by decide) (by decide) zk) ?_
    show own_Go p e below G (T35.setTop (mkF m 391 #[.val (.long q0), .second, .val (.long q1), .second, .val (.int p2), .val (.int p3), .val (.ref b2), .val (.int sn), .val (.int (8 : Int32)), .val (.long (-1 : Int64)), .second] [(.int (1 : Int32))]))
    subst hG
    obtain ⟨fs, hr, hrun, hended, hW, hsame⟩ := X35.leave (v := some (.int (1 : Int32))) (hlocks := Bd.notSynchronized) (fun h => by rw [Bd.returns] at h; cases h)
    refine ⟨_, retN X35 hx (t := .boolean) Bd.returns (by simp) (hb hby at_391) hr, _, hrun, hended, _, _, rfl, ?_, ⟨_, rfl⟩, hW, hsame.mono (by decide) (by decide)⟩
    show Q0 Z q0 q1 p2 p3 h0 n0 _ T35.heap _
    rw [e35]
    exact ⟨rfl, N35⟩
  · show own_Go p e below G (T26.setTop (mkF m 320 #[.val (.long q0), .second, .val (.long q1), .second, .val (.int p2), .val (.int p3), .val (.ref b2), .val (.int sn), .val (.int ln), .unset, .unset] []))
    rw [show ln = (9 : Int32) from e0]
    refine own_st (fun zw zk => XS.iload X26.here hx rfl (hb hby at_320) rfl zk) ?_
    refine own_st (fun zw zk => XS.ifYes X26.here hx rfl (pc0 := 322) (pc' := 331) rfl (hb hby at_322) rfl ((if0 _ _).trans (feq (by decide : ¬ ((9 : Int32) = (0 : Int32)))).2) (by decide) (by decide) zk) ?_
    refine own_st (fun zw zk => XS.iload X26.here hx rfl (hb hby at_331) rfl zk) ?_
    refine own_st (fun zw zk => XS.bipush X26.here hx rfl (hb hby at_333) zk) ?_
    refine own_st (fun zw zk => XS.icmpYes X26.here hx rfl (pc0 := 335) (pc' := 363) rfl (hb hby at_335) rfl (tlt (by decide : (7 : Int32) < (9 : Int32))).2.2.1 (by decide) (by decide) zk) ?_
    refine own_st (fun zw zk => X26.ldc2Long hx hown (mvT hZ (hw _ (List.mem_of_getElem? (i := 1) rfl))) (g := (mkF m 363 #[.val (.long q0), .second, .val (.long q1), .second, .val (.int p2), .val (.int p3), .val (.ref b2), .val (.int sn), .val (.int (9 : Int32)), .unset, .unset] [])) rfl (hb hby at_363) _ zk) ?_
    refine own_st (fun zw zk => XS.lstore X26.here hx rfl (hb hby at_366) rfl rfl zk) ?_
    show own_Go p e below G (T26.setTop (mkF m 368 #[.val (.long q0), .second, .val (.long q1), .second, .val (.int p2), .val (.int p3), .val (.ref b2), .val (.int sn), .val (.int (9 : Int32)), .val (.long (-1 : Int64)), .second] []))
    refine own_st (fun zw zk => XS.aload X26.here hx rfl (hb hby at_368) rfl rfl zk) ?_
    refine own_st (fun zw zk => XS.iload X26.here hx rfl (hb hby at_370) rfl zk) ?_
    refine own_st (fun zw zk => XS.iload X26.here hx rfl (hb hby at_372) rfl zk) ?_
    refine own_st (fun zw zk => XS.iload X26.here hx rfl (hb hby at_374) rfl zk) ?_
    refine own_st (fun zw zk => XS.iadd X26.here hx rfl (hb hby at_376) rfl zk) ?_
    obtain ⟨_, _, ⟨T36, L36, k36, n36⟩, -, X36, ⟨Lc36, hQ36, l36, y36, z36⟩, st36⟩ := Jvm.LawKit.callS X26 hx (y := (⟨"com/example/passau/passau/drawing/IdList", "keyOf", "([BII)J"⟩ : MethodName)) hown (mvT hZ (hw _ (List.mem_of_getElem? (i := 3) rfl))) (mvT hZ (hw _ (List.mem_of_getElem? (i := 4) rfl))) (mvT hZ (hw _ (List.mem_of_getElem? (i := 5) rfl))) (mvT hZ (hw _ (List.mem_of_getElem? (i := 6) rfl))) (by decide) (backOf (W := 0) (rm1b l Z a0 hw [] b2 sn (sn + (9 : Int32)) h26 n0 Z26 (own_gt7 hns (own_addk 9 (by decide) (by decide) hns hns7) (Nat.le_add_right _ _) (by omega))) hZ (hw _ (List.mem_of_getElem? (i := 6) rfl)) (hw _ (List.mem_of_getElem? (i := 5) rfl)) (by decide) (by decide)) (g := (mkF m 377 #[.val (.long q0), .second, .val (.long q1), .second, .val (.int p2), .val (.int p3), .val (.ref b2), .val (.int sn), .val (.int (9 : Int32)), .val (.long (-1 : Int64)), .second] [(.int (sn + (9 : Int32))), (.int sn), (.ref b2)])) rfl (by rw [hml]; rfl) (argsL := [(.ref b2), (.int sn), (.int (sn + (9 : Int32)))]) (rest := []) (lenOf pd_0 rfl) rfl (by show 2 * 0 + _ ≤ _; exact Nat.le_of_eq rfl) (hb hby at_377) (fun _ _ => ⟨rfl, e26, (by decide : 1 + 0 ≤ _), (by decide : 16 + 0 ≤ _)⟩)
    dsimp only [Pt.U, Pt.locs, Pt.cells, Pt.slots] at X36 l36 y36 z36 st36 hQ36
    rw [l36, y36, z36] at X36
    obtain ⟨rfl, N36q, e36⟩ := hQ36
    have N36 := Fr.app N26 N36q
    refine own_st (fun zw zk => st36 zw zk) ?_
    refine own_st (fun zw zk => XS.lload X36.here hx rfl (hb hby at_380) rfl zk) ?_
    refine own_st (fun zw zk => XS.lcmp X36.here hx rfl (hb hby at_382) rfl zk) ?_
    show own_Go p e below G (T36.setTop (mkF m 383 #[.val (.long q0), .second, .val (.long q1), .second, .val (.int p2), .val (.int p3), .val (.ref b2), .val (.int sn), .val (.int (9 : Int32)), .val (.long (-1 : Int64)), .second] [(.int (lcmpW (-1 : Int64) (-1 : Int64)))]))
    refine own_st (fun zw zk => XS.ifNo X36.here hx rfl (hb hby at_383) rfl ((if0 _ _).trans (teq (own_tle (by decide : (-1 : Int64) = (-1 : Int64)))).2) zk) ?_
    refine own_st (fun zw zk => XS.iconst X36.here hx rfl (hb hby at_386) zk) ?_
    refine own_st (fun zw zk => XS.goto X36.here hx rfl (pc0 := 387) (pc' := 391) rfl (hb hby at_387) (by decide) (by decide) zk) ?_
    show own_Go p e below G (T36.setTop (mkF m 391 #[.val (.long q0), .second, .val (.long q1), .second, .val (.int p2), .val (.int p3), .val (.ref b2), .val (.int sn), .val (.int (9 : Int32)), .val (.long (-1 : Int64)), .second] [(.int (1 : Int32))]))
    subst hG
    obtain ⟨fs, hr, hrun, hended, hW, hsame⟩ := X36.leave (v := some (.int (1 : Int32))) (hlocks := Bd.notSynchronized) (fun h => by rw [Bd.returns] at h; cases h)
    refine ⟨_, retN X36 hx (t := .boolean) Bd.returns (by simp) (hb hby at_391) hr, _, hrun, hended, _, _, rfl, ?_, ⟨_, rfl⟩, hW, hsame.mono (by decide) (by decide)⟩
    show Q0 Z q0 q1 p2 p3 h0 n0 _ T36.heap _
    rw [e36]
    exact ⟨rfl, N36⟩
set_option maxRecDepth 65536 in
set_option maxHeartbeats 40000000 in
theorem comes_1 {Post : Tables → Env → Array Value → State → Outcome → State → Prop} (hpost : ∀ tb e args s v u, (limb_1_1.after args s (.returned v) u = true ∧ limb_1_2.after args s (.returned v) u = true ∧ True) → FrameEnd s (.returned v) u (Jvm.fieldLocs frame_1_writes args s ++ Jvm.arrayLocs frame_1_arrays args s ++ Jvm.staticLocs frame_1_statics s) 16 128 → Post tb e args s (.returned v) u) :
    ArmFor flags0 classFile x code maxLocals ret World_1 tables_1 room_1 Calls_1 rest_1 Pre_1 Post := by
  intro l hfl _ _ p e ha hc hk s m args below hf hA hF happ hP
  obtain ⟨hcalls, hrest, hpre⟩ := hP
  obtain ⟨-, -, -, hnamed, -, -, -, hat⟩ := (Spec.applies_iff hf).mp happ
  obtain ⟨hg, hn⟩ := and_e (Cond.before_iff.mp (show (Jvm.Cond.and given_1 narrow_1).before args s = true from hpre))
  obtain ⟨g1, g2⟩ := and_e hg
  obtain ⟨g3, g4⟩ := and_e g2
  obtain ⟨g5, g6⟩ := and_e g4
  obtain ⟨g7, g8⟩ := and_e g6
  obtain ⟨w0, w1, w2, w3, rfl⟩ : ∃ w0 w1 w2 w3 : Value, args = #[w0, w1, w2, w3] := by
    have hs : args.size = 4 := by simpa [Cond.value, given_1] using g1
    obtain ⟨L⟩ := args
    match L, hs with
    | [w0, w1, w2, w3], _ => exact ⟨w0, w1, w2, w3, rfl⟩
  have hw := fun d (hd : d ∈ tables_1) => atoms_spec (ws := Jvm.Cond.code x code maxLocals ret :: tables_1) hat d (List.mem_cons_of_mem _ hd)
  obtain ⟨i0, ei0⟩ := isL_v g3
  obtain rfl : w0 = (.long i0) := Option.some.inj ei0
  obtain ⟨i1, ei1⟩ := isL_v g5
  obtain rfl : w1 = (.long i1) := Option.some.inj ei1
  obtain ⟨i2, ei2⟩ := is_v g7
  obtain rfl : w2 = (.int i2) := Option.some.inj ei2
  obtain ⟨i3, ei3⟩ := is_v g8
  obtain rfl : w3 = (.int i3) := Option.some.inj ei3
  obtain ⟨n, o, h1, h2, h3, _, L, rfl, ⟨rfl, N⟩, hq⟩ := rm0 l s _ hw tables_1 i0 i1 i2 i3 s.heap s.heap.size (Nat.le_refl _) p e ha hc hk s m _ below hf ((Spec.applies_iff_loose hf).mp happ).1 ⟨rfl, State.Warmed39.refl s, rfl⟩ trivial
  refine ⟨n, _, h1, h2, h3, hpost _ _ _ _ _ _ ⟨Cond.after_iff.mpr rfl, Cond.after_iff.mpr (eq_i res_at (Term.int_eval (1)) rfl), trivial⟩ ⟨hq.1, hq.2.1, (hq.2.2.sift fun y hy => Or.inr (N y hy)).mono (by decide) (by decide)⟩⟩
theorem main_1_1 : Claimed_1_1 := comes_1 fun _ _ _ _ _ _ h hF => ⟨h.1, hF⟩
theorem main_1_2 : Claimed_1_2 := comes_1 fun _ _ _ _ _ _ h hF => ⟨h.2.1, hF⟩
end Jvm.Pilot.@@N@@
namespace Jvm.Pilot.@@N@@
open Jvm Jvm.ClassFile Sem Op Lib Jvm.Free Jvm.Stand Jvm.Pilot.@@N@@.Jvm.D
/-! MADE BY PROGRAM (witnessworld.py) out of the Statement's table words and the real class files: 9 classes; the members and pool entries that the words name. The judged class is class 1, her method 1. -/
namespace start1
open Jvm.ClassFile
def u (s : String) : CpInfo := .utf8 (stringToUtf16 s)
/-- a pool by its gaps: so many unusable entries, then the entry; so many at the end -/
def gap : Nat → List CpInfo → List CpInfo
  | 0, r => r
  | n + 1, r => .unusable :: gap n r
def poolList (es : List (Nat × CpInfo)) (last : Nat) : List CpInfo := es.foldr (fun e r => gap e.1 (e.2 :: r)) (gap last [])
def pool (es : List (Nat × CpInfo)) (last : Nat) : Array CpInfo := ⟨poolList es last⟩
def fileOf (pool : Array CpInfo) (this : Nat) (attrs : Array Attribute := #[]) (ms : Array MethodInfo := #[]) (fl : Nat := 33) (sup : Nat := 0) (ifs : Array Nat := #[]) (fds : Array FieldInfo := #[]) : ClassFile where
  minorVersion := 0
  majorVersion := 65
  constantPool := pool
  accessFlags := fl
  thisClass := this
  superClass := sup
  interfaces := ifs
  fields := fds
  methods := ms
  attributes := attrs
def plain (name : String) (sup : Option ClassId) : Class where
  name := name
  kind := .ordinary
  loader := none
  accessFlags := 33
  super := sup
  interfaces := #[]
  cf := none
  fields := #[]
  methods := #[]
  instanceTypes := #[]
  staticTypes := #[]
  resolved := #[]
  callSites := []
  init := .initialized
  statics := none
  mirror := none

def pool0 : Array CpInfo := pool [(5, u "<init>"), (0, u "()V"), (1, .class_ 10), (1, u "java/lang/Object")] 113

def k0m0 : Method := { name := "<init>", desc := "()V", sig := { parameters := [], returnType := none }, accessFlags := 1, code := none }
/-- java/lang/Object -/
def k0 : Class := { plain "java/lang/Object" none with
  accessFlags := 33
  interfaces := #[]
  cf := some (fileOf pool0 8 #[] #[{ accessFlags := 1, nameIndex := 5, descriptorIndex := 6, attributes := #[] }] 33 0 #[] #[])
  fields := #[]
  methods := #[k0m0]
  instanceTypes := #[]
  staticTypes := #[]
  resolved := Array.replicate 124 none
  statics := none }

def pool1 : Array CpInfo := pool [(2, .class_ 4), (1, u "java/lang/Object"), (0, u "<init>"), (0, u "()V"), (0, .long 18446744073709551615), (1, .integer 2147483647), (0, .methodref 11 12), (0, .class_ 13), (0, .nameAndType 14 15), (0, u "com/example/passau/passau/drawing/IdList"), (0, u "keyOf"), (0, u "([BII)J"), (0, .class_ 17), (0, u "com/example/passau/passau/drawing/IdListKeyOfPinLaw"), (2, u "law"), (0, u "(JJII)Z")] 5

def k1m0 : Method := { name := "<init>", desc := "()V", sig := { parameters := [], returnType := none }, accessFlags := 1, code := none }
def k1c1 : Code := { maxStack := 7, maxLocals := 11, code := code, exceptionTable := #[], attributes := #[] }
def k1m1 : Method := { name := "law", desc := "(JJII)Z", sig := { parameters := [.long, .long, .int, .int], returnType := some .boolean }, accessFlags := 9, code := some k1c1 }
/-- com/example/passau/passau/drawing/IdListKeyOfPinLaw -/
def k1 : Class := { plain "com/example/passau/passau/drawing/IdListKeyOfPinLaw" (some 0) with
  accessFlags := 49
  interfaces := #[]
  cf := some (fileOf pool1 16 #[] #[{ accessFlags := 1, nameIndex := 5, descriptorIndex := 6, attributes := #[] }, { accessFlags := 9, nameIndex := 20, descriptorIndex := 21, attributes := #[] }] 49 2 #[] #[])
  fields := #[]
  methods := #[k1m0, k1m1]
  instanceTypes := #[]
  staticTypes := #[]
  resolved := Array.replicate 27 none
  statics := none }

def pool2 : Array CpInfo := pool [(2, .class_ 4), (1, u "java/lang/Object"), (0, u "<init>"), (0, u "()V"), (0, .class_ 8), (0, u "com/example/passau/passau/drawing/IdList"), (2, u "latin1"), (0, u "[B"), (2, u "ends"), (0, u "[I"), (2, u "size"), (0, u "I"), (8, u "given"), (0, u "[Ljava/lang/String;"), (22, u "made"), (39, u "keyOf"), (3, u "([BII)J"), (4, .long 18446744073709551615), (29, u "NO_KEY"), (0, u "J"), (1, u "KEY_CHARACTERS"), (1, u "LATIN_1"), (1, u "MIN_CAPACITY"), (1, u "SPREAD")] 18

def k2m0 : Method := { name := "<init>", desc := "()V", sig := { parameters := [], returnType := none }, accessFlags := 0, code := none }
def k2c1 : Code := { maxStack := 4, maxLocals := 6, code := prog_18_method_16_code, exceptionTable := #[], attributes := #[] }
def k2m1 : Method := { name := "keyOf", desc := "([BII)J", sig := { parameters := [(.array .byte), .int, .int], returnType := some .long }, accessFlags := 8, code := some k2c1 }
/-- com/example/passau/passau/drawing/IdList -/
def k2 : Class := { plain "com/example/passau/passau/drawing/IdList" (some 0) with
  accessFlags := 49
  interfaces := #[]
  cf := some (fileOf pool2 7 #[] #[{ accessFlags := 0, nameIndex := 5, descriptorIndex := 6, attributes := #[] }, { accessFlags := 8, nameIndex := 93, descriptorIndex := 97, attributes := #[] }] 49 2 #[] #[{ accessFlags := 24, nameIndex := 132, descriptorIndex := 133, attributes := #[] }, { accessFlags := 26, nameIndex := 135, descriptorIndex := 20, attributes := #[] }, { accessFlags := 26, nameIndex := 137, descriptorIndex := 20, attributes := #[] }, { accessFlags := 26, nameIndex := 139, descriptorIndex := 20, attributes := #[] }, { accessFlags := 26, nameIndex := 141, descriptorIndex := 133, attributes := #[] }, { accessFlags := 2, nameIndex := 29, descriptorIndex := 30, attributes := #[] }, { accessFlags := 2, nameIndex := 11, descriptorIndex := 12, attributes := #[] }, { accessFlags := 2, nameIndex := 15, descriptorIndex := 16, attributes := #[] }, { accessFlags := 2, nameIndex := 19, descriptorIndex := 20, attributes := #[] }, { accessFlags := 2, nameIndex := 53, descriptorIndex := 30, attributes := #[] }])
  fields := #[{ name := "NO_KEY", type := .long, accessFlags := 24, slot := 0, constantValue := 0 }, { name := "KEY_CHARACTERS", type := .int, accessFlags := 26, slot := 1, constantValue := 0 }, { name := "LATIN_1", type := .int, accessFlags := 26, slot := 2, constantValue := 0 }, { name := "MIN_CAPACITY", type := .int, accessFlags := 26, slot := 3, constantValue := 0 }, { name := "SPREAD", type := .long, accessFlags := 26, slot := 4, constantValue := 0 }, { name := "given", type := (.array (.object "java/lang/String")), accessFlags := 2, slot := 0, constantValue := 0 }, { name := "latin1", type := (.array .byte), accessFlags := 2, slot := 1, constantValue := 0 }, { name := "ends", type := (.array .int), accessFlags := 2, slot := 2, constantValue := 0 }, { name := "size", type := .int, accessFlags := 2, slot := 3, constantValue := 0 }, { name := "made", type := (.array (.object "java/lang/String")), accessFlags := 2, slot := 4, constantValue := 0 }]
  methods := #[k2m0, k2m1]
  instanceTypes := #[(.array (.object "java/lang/String")), (.array .byte), (.array .int), .int, (.array (.object "java/lang/String"))]
  staticTypes := #[.long, .int, .int, .int, .long]
  resolved := Array.replicate 160 none
  statics := none }

def pool3 : Array CpInfo := pool [(1, u "java/lang/Cloneable"), (0, .class_ 1), (0, u "java/lang/Object"), (0, .class_ 3)] 3

/-- java/lang/Cloneable -/
def k3 : Class := { plain "java/lang/Cloneable" (some 0) with
  accessFlags := 1537
  interfaces := #[]
  cf := some (fileOf pool3 2 #[] #[] 1537 4 #[] #[])
  fields := #[]
  methods := #[]
  instanceTypes := #[]
  staticTypes := #[]
  resolved := Array.replicate 8 none
  statics := none }

def pool4 : Array CpInfo := pool [(1, u "java/io/Serializable"), (0, .class_ 1), (0, u "java/lang/Object"), (0, .class_ 3)] 3

/-- java/io/Serializable -/
def k4 : Class := { plain "java/io/Serializable" (some 0) with
  accessFlags := 1537
  interfaces := #[]
  cf := some (fileOf pool4 2 #[] #[] 1537 4 #[] #[])
  fields := #[]
  methods := #[]
  instanceTypes := #[]
  staticTypes := #[]
  resolved := Array.replicate 8 none
  statics := none }

/-- the primitive byte -/
def k5 : Class := { plain "byte" none with kind := .primitive 'B', accessFlags := 0x411 }
/-- [B -/
def k6 : Class := { plain "[B" (some 0) with kind := .array 5 .byte, interfaces := #[3, 4], accessFlags := 1041 }

/-- the primitive int -/
def k7 : Class := { plain "int" none with kind := .primitive 'I', accessFlags := 0x411 }
/-- [I -/
def k8 : Class := { plain "[I" (some 0) with kind := .array 7 .int, interfaces := #[3, 4], accessFlags := 1041 }

def heap : Heap := #[]
def classes : Array Class := #[k0, k1, k2, k3, k4, k5, k6, k7, k8]
def interned : List (Array UInt16 × Addr) := []
def slotsUsed : Nat := 0
def theMethod : MethodId := ⟨1, 1⟩
def args0 : Array Value := #[.long 5, .long 9, .int 6, .int 7]
def aboutOver (below : List Frame) : State where
  vm := { classes := classes, interned := interned.toArray }
  heap := heap
  slotsUsed := slotsUsed
  threads := #[{ frames := .invoking theMethod args0 :: below }]
def below0 : List Frame := [.native { method := ⟨0, 0⟩, args := #[] }]
def about1 : State := aboutOver below0
def p0 : Program := .bare "" "" ""
def e0 : Env := launch0.env 0 0 0
theorem w_frames : about1.frames = Frame.invoking theMethod args0 :: below0 := rfl
set_option maxRecDepth 65536 in
theorem w_args : argsFit about1.vm theMethod args0 = true := by decide +kernel
set_option maxRecDepth 65536 in
theorem w_heap : heapFits about1 = true := by decide +kernel
set_option maxRecDepth 65536 in
theorem w_runnable : about1.curStatus? = some .runnable := by decide +kernel
set_option maxRecDepth 65536 in
theorem w_alone : about1.alone = true := by decide +kernel
set_option maxRecDepth 65536 in
theorem w_named : about1.methodNamed? x = some theMethod := by decide +kernel
set_option maxRecDepth 65536 in
theorem w_hears : about1.hears theMethod below0 = true := by decide +kernel
set_option maxRecDepth 65536 in
theorem w_ripe : about1.ripe theMethod args0 below0 = true := by decide +kernel
theorem w_running : about1.status = .running := rfl
set_option maxRecDepth 65536 in
theorem w_room : about1.hasRoom e0.platform room_1 = true :=
  launch0.hasRoom_least _ room_1 (by decide +kernel) (by decide +kernel) (by decide +kernel) (by decide +kernel) (by decide +kernel) (by decide +kernel)
theorem allAtoms_all (ts : List Jvm.Cond) (a : Array Jvm.Value) (st : Jvm.State) : (allAtoms ts).before a st = ts.all (fun c => c.before a st) := by
  induction ts with
  | nil => rfl
  | cons c t ih =>
    show (Jvm.Cond.and c (allAtoms t)).before a st = _
    rw [Jvm.Cond.before_and, ih, List.all_cons]
def words1 : List Jvm.Cond := Jvm.Cond.code x code maxLocals ret :: tables_1
/-- a 'code' word, met by the world's own term for the bytes: nothing is compared byte by byte -/
theorem code_word {y : MethodName} {bytes : ByteArray} {mx : Nat} {rt : Option FieldType} {a : Array Value} {s : State} {m : MethodId} {meth : Method} {c : Code} (h1 : s.methodNamed? y = some m) (h2 : s.vm.method? m = some meth) (h3 : meth.code = some c) (h4 : c.code = bytes)
    (h5 : (c.maxLocals == mx && c.exceptionTable.isEmpty && decide (c.maxStack ≤ mostOperands) && decide (meth.sig.returnType = rt) && !meth.locks && decide (parseMethodDescriptor y.desc = some meth.sig)) = true) : (Jvm.Cond.code y bytes mx rt).before a s = true := by
  simp only [Bool.and_eq_true, beq_iff_eq, Bool.not_eq_true', decide_eq_true_eq] at h5
  obtain ⟨⟨⟨⟨⟨g1, g2⟩, g3⟩, g4⟩, g5⟩, g6⟩ := h5
  simp [Cond.before, Cond.holds, Cond.value, h1, h2, h3, h4, g1, g2, g3, g4, g5, g6]
def isCode : Jvm.Cond → Bool
  | .code _ _ _ _ => true
  | _ => false
theorem all_split {L : List Jvm.Cond} {P : Jvm.Cond → Bool} (h1 : L.all (fun c => isCode c || P c) = true) (h2 : ∀ c ∈ L.filter isCode, P c = true) : L.all P = true := by
  refine List.all_eq_true.mpr fun c hc => ?_
  have h := List.all_eq_true.mp h1 c hc
  rcases Bool.eq_false_or_eq_true (isCode c) with hi | hi
  · exact h2 c (List.mem_filter.mpr ⟨hc, hi⟩)
  · simpa [hi] using h
set_option maxRecDepth 65536 in
theorem w_c0 : (Jvm.Cond.code x code maxLocals ret).before args0 about1 = true := code_word (m := ⟨1, 1⟩) (meth := k1m1) (c := k1c1) (by decide +kernel) rfl rfl rfl (by decide +kernel)
set_option maxRecDepth 65536 in
theorem w_c1 : (Jvm.Cond.code ({ cls := "com/example/passau/passau/drawing/IdList", name := "keyOf", desc := "([BII)J" } : Jvm.MethodName) prog_18_method_16_code (6 : Nat) (Option.some Jvm.ClassFile.FieldType.long)).before args0 about1 = true := code_word (m := ⟨2, 1⟩) (meth := k2m1) (c := k2c1) (by decide +kernel) rfl rfl rfl (by decide +kernel)
def codes1 : List Jvm.Cond := [Jvm.Cond.code x code maxLocals ret, Jvm.Cond.code ({ cls := "com/example/passau/passau/drawing/IdList", name := "keyOf", desc := "([BII)J" } : Jvm.MethodName) prog_18_method_16_code (6 : Nat) (Option.some Jvm.ClassFile.FieldType.long)]
set_option maxRecDepth 65536 in
theorem codes_eq : words1.filter isCode = codes1 := rfl
theorem w_codes : ∀ c ∈ words1.filter isCode, c.before args0 about1 = true := by
  rw [codes_eq]
  intro c hc
  simp only [codes1, List.mem_cons, List.not_mem_nil, or_false] at hc
  rcases hc with rfl | rfl
  · exact w_c0
  · exact w_c1
set_option maxRecDepth 65536 in
theorem w_t1 : words1.all (fun c => isCode c || c.before args0 about1) = true := by decide +kernel
theorem w_tables : (allAtoms (Jvm.Cond.code x code maxLocals ret :: tables_1)).before args0 about1 = true := by
  rw [allAtoms_all]
  show words1.all (fun c => c.before args0 about1) = true
  refine all_split ?_ w_codes
  rw [w_t1]
set_option maxRecDepth 65536 in
theorem w_case : (Jvm.Cond.and given_1 narrow_1).before args0 about1 = true := by decide +kernel
theorem w_applies : (headSpec (Jvm.Cond.code x code maxLocals ret :: tables_1) room_1).applies x e0.platform about1 = true :=
  (Spec.applies_iff w_frames).mpr ⟨w_running, w_runnable, w_alone, w_named, w_hears, w_ripe, w_room, w_tables⟩
theorem atStart : AtStart classFile x code maxLocals ret World_1 tables_1 room_1 Calls_1 rest_1 Pre_1 launch0 p0 e0 about1 theMethod args0 below0 :=
  ⟨lists_1, trivial, launch0.admits_env _ _ _, launch0.least_env, fairChoices_fair.cas, fairChoices_fair.clock, w_frames, w_args, w_heap, w_applies, trivial, trivial, w_case⟩
end start1
theorem witness_1 : WitnessClaimed_1 := ⟨start1.p0, start1.e0, start1.about1, start1.theMethod, start1.args0, start1.below0, start1.atStart⟩
end Jvm.Pilot.@@N@@
