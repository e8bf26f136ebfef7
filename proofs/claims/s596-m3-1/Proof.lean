import JvmDerived
import JvmDerived.Pilot.@@N@@Statement
import JvmDerived.Pilot.@@N@@Code
set_option linter.unusedVariables false
set_option linter.unusedSimpArgs false
namespace Jvm.Pilot.@@N@@
open Jvm Jvm.ClassFile Sem Op Lib Jvm.Free Jvm.Stand Jvm.LawKit Jvm.RoadKit Bundle Jvm.Pilot.@@N@@.Jvm.D
/-! own_Go: from t the run comes to a state where G holds. A walk is written backwards from the goal, so that a case split may stand anywhere. -/
def own_Go (p : Program) (e : Env) (below : List Frame) (G : State → Prop) (t : State) : Prop := ∃ u, Steps p.tables e below t u ∧ G u
theorem own_st {p : Program} {e : Env} {below : List Frame} {G : State → Prop} {t u : State} (f : ∀ w, Steps p.tables e below u w → Steps p.tables e below t w) (k : own_Go p e below G u) : own_Go p e below G t := by
  obtain ⟨w, s, g⟩ := k
  exact ⟨w, f w s, g⟩
theorem own_jp {p : Program} {e : Env} {below : List Frame} {G : State → Prop} {t u : State} (f : Steps p.tables e below t u) (k : own_Go p e below G u) : own_Go p e below G t := by
  obtain ⟨w, s, g⟩ := k
  exact ⟨w, f.trans s, g⟩
theorem own_out {p : Program} {e : Env} {below : List Frame} {t : State} {Q : Outcome → State → Prop} (k : own_Go p e below (fun u => ∃ o, u.status = .running ∧ Ended u below o ∧ Q o u) t) : ∃ s₂ o, Steps p.tables e below t s₂ ∧ s₂.status = .running ∧ Ended s₂ below o ∧ Q o s₂ := by
  obtain ⟨w, s, o, g⟩ := k
  exact ⟨w, o, s, g⟩
theorem own_nm {p : Program} {e : Env} {below : List Frame} {G0 : State → Prop} {t : State} (k : ∀ G, G = G0 → own_Go p e below G t) : own_Go p e below G0 t := k _ rfl
theorem own_tll {x y : Int64} (h : x < y) : lcmpW x y < 0 := (lw_lt x y).mpr h
theorem own_fll {x y : Int64} (h : ¬ x < y) : ¬ lcmpW x y < 0 := fun q => h ((lw_lt x y).mp q)
theorem own_tlg {x y : Int64} (h : y < x) : 0 < lcmpW x y := (lw_gt x y).mpr h
theorem own_flg {x y : Int64} (h : ¬ y < x) : ¬ 0 < lcmpW x y := fun q => h ((lw_gt x y).mp q)
theorem own_tle {x y : Int64} (h : x = y) : lcmpW x y = 0 := (lw_eq x y).mpr h
theorem own_fle {x y : Int64} (h : ¬ x = y) : ¬ lcmpW x y = 0 := fun q => h ((lw_eq x y).mp q)
section Own
variable {p : Program} {l : Launch} {e : Env} {R : Room} {s : State} {m : MethodId} {args : Array Value} {below : List Frame} {meth : Method} {c : Code} {T : State} {locs : List Loc} {cells slots : Nat} {Z : State} {h h' : Heap} {a b : Addr} {ty : FieldType} {vs : List Value} {v : Value}
theorem own_retI (X : Stand p l e R s m args below meth c T locs cells slots) (hx : p.tables.exec = Jvm.exec) {pc : Nat} {Ls : Array Slot} {z : Int32} {rest : List Value} (hret : meth.sig.returnType = some .int) (hd : decode c.code pc = .ok (.ireturn, 1)) {fs : List Frame}
    (hl : ∀ (f : JFrame) (acts : List Action), f.method = m → f.locked = none → f.entered = [] → (doReturn e (T.setTop f) acts (some (.int z))).1 = T.setFrames fs) : Steps p.tables e below (T.setTop (mkF m pc Ls (.int z :: rest))) (T.setFrames fs) :=
  retOut X hx hret rfl (Or.inl ⟨rfl, Or.inl rfl, z, rfl⟩) hd hl
theorem own_retJ (X : Stand p l e R s m args below meth c T locs cells slots) (hx : p.tables.exec = Jvm.exec) {pc : Nat} {Ls : Array Slot} {z : Int64} {rest : List Value} (hret : meth.sig.returnType = some .long) (hd : decode c.code pc = .ok (.lreturn, 1)) {fs : List Frame}
    (hl : ∀ (f : JFrame) (acts : List Action), f.method = m → f.locked = none → f.entered = [] → (doReturn e (T.setTop f) acts (some (.long z))).1 = T.setFrames fs) : Steps p.tables e below (T.setTop (mkF m pc Ls (.long z :: rest))) (T.setFrames fs) :=
  retOut X hx hret rfl (Or.inr (Or.inl ⟨rfl, rfl, z, rfl⟩)) hd hl
/-! own_L: the array at a holds just the list vs -/
def own_L (Z : State) (h : Heap) (a : Addr) (ty : FieldType) (vs : List Value) : Prop := ∃ cl : Cell, Arr Z h a cl ty ∧ cl.slots = vs.toArray
theorem own_L.lt (F : own_L Z h a ty vs) : a < h.size := by obtain ⟨cl, A, -⟩ := F; exact A.lt
theorem own_L.ext (F : own_L Z h a ty vs) (E : Ext h h') : own_L Z h' a ty vs := by obtain ⟨cl, A, q⟩ := F; exact ⟨cl, A.ext E, q⟩
theorem own_L.other {sl : Nat} (F : own_L Z h b ty vs) (W : Wr h h' a sl v) (q : b ≠ a) : own_L Z h' b ty vs := by obtain ⟨cl, A, r⟩ := F; exact ⟨cl, A.other W q, r⟩
theorem own_L.keep {ws : List Addr} (F : own_L Z h a ty vs) (K : Keep h h' ws) (q : a ∉ ws) : own_L Z h' a ty vs := by obtain ⟨cl, A, r⟩ := F; exact ⟨cl, ⟨K.2.1 a cl A.1 q, A.2⟩, r⟩
theorem own_L.new {k : ClassId} {z : Int32} (A : Arr Z h a (newA k ty z) ty) : own_L Z h a ty (List.replicate z.toNatClampNeg (defaultValue ty)) := ⟨_, A, by simp [newA]⟩
theorem own_L.same {k : Nat} (F : own_L Z h a ty vs) (W : Wr h h' a k v) : own_L Z h' a ty (vs.set k v) := by
  obtain ⟨cl, A, q⟩ := F
  exact ⟨_, A.same W, by simp [Cell.setSlot, q]⟩
theorem own_in {cl : Cell} {j : Int32} (q : cl.slots = vs.toArray) (h1 : ¬ j < 0) (h2 : j.toNatClampNeg < vs.length) : ¬ (j < 0 ∨ cl.slots.size ≤ j.toNatClampNeg) := by
  rw [q]
  rintro (r | r)
  · exact h1 r
  · simp at r; omega
theorem own_at {cl : Cell} {k : Nat} (q : cl.slots = vs.toArray) (hv : vs[k]? = some v) : cl.slots[k]? = some v := by rw [q]; simpa using hv
theorem own_lt {k : Nat} (hv : vs[k]? = some v) : k < vs.length := by
  obtain ⟨q, -⟩ := List.getElem?_eq_some_iff.mp hv
  exact q
theorem own_bld (X : Stand p l e R s m args below meth c T locs cells slots) (hx : p.tables.exec = Jvm.exec) (hZ : Z.Warmed39 s.vm) (eT : T.heap = h) (F : own_L Z h a .byte vs) {j : Int32} {i : Nat} (h1 : ¬ j < 0) (hi : j.toNatClampNeg = i) (hv : vs[i]? = some v) {g : JFrame} (hg : g.method = m) {rest : List Value} (hs : g.stack = .int j :: .ref a :: rest) (hd : decode c.code g.pc = .ok (.baload, 1)) :
    ∀ target, Steps p.tables e below (T.setTop { g with pc := g.pc + 1, stack := v :: rest }) target → Steps p.tables e below (T.setTop g) target := by
  obtain ⟨cl, A, q⟩ := F
  subst hi
  exact X.baloadBytes hx (by rw [eT]; exact A.1) (State.isArrayOf_alike hZ.alike A.2.1) A.2.2 (own_in q h1 (own_lt hv)) (own_at q hv) hg hs hd
theorem own_jld (X : Stand p l e R s m args below meth c T locs cells slots) (hx : p.tables.exec = Jvm.exec) (hZ : Z.Warmed39 s.vm) (eT : T.heap = h) (F : own_L Z h a .long vs) {j : Int32} {i : Nat} (h1 : ¬ j < 0) (hi : j.toNatClampNeg = i) (hv : vs[i]? = some v) {g : JFrame} (hg : g.method = m) {rest : List Value} (hs : g.stack = .int j :: .ref a :: rest) (hd : decode c.code g.pc = .ok (.laload, 1)) :
    ∀ target, Steps p.tables e below (T.setTop { g with pc := g.pc + 1, stack := v :: rest }) target → Steps p.tables e below (T.setTop g) target := by
  obtain ⟨cl, A, q⟩ := F
  subst hi
  exact X.laload hx (by rw [eT]; exact A.1) (State.isArrayOf_alike hZ.alike A.2.1) A.2.2 (own_in q h1 (own_lt hv)) (own_at q hv) hg hs hd
theorem own_ild (X : Stand p l e R s m args below meth c T locs cells slots) (hx : p.tables.exec = Jvm.exec) (hZ : Z.Warmed39 s.vm) (eT : T.heap = h) (F : own_L Z h a .int vs) {j : Int32} {i : Nat} (h1 : ¬ j < 0) (hi : j.toNatClampNeg = i) (hv : vs[i]? = some v) {g : JFrame} (hg : g.method = m) {rest : List Value} (hs : g.stack = .int j :: .ref a :: rest) (hd : decode c.code g.pc = .ok (.iaload, 1)) :
    ∀ target, Steps p.tables e below (T.setTop { g with pc := g.pc + 1, stack := v :: rest }) target → Steps p.tables e below (T.setTop g) target := by
  obtain ⟨cl, A, q⟩ := F
  subst hi
  exact X.iaload hx (by rw [eT]; exact A.1) (State.isArrayOf_alike hZ.alike A.2.1) A.2.2 (own_in q h1 (own_lt hv)) (own_at q hv) hg hs hd
theorem own_zld (X : Stand p l e R s m args below meth c T locs cells slots) (hx : p.tables.exec = Jvm.exec) (hZ : Z.Warmed39 s.vm) (eT : T.heap = h) (F : own_L Z h a .boolean vs) {j : Int32} {i : Nat} (h1 : ¬ j < 0) (hi : j.toNatClampNeg = i) (hv : vs[i]? = some v) {g : JFrame} (hg : g.method = m) {rest : List Value} (hs : g.stack = .int j :: .ref a :: rest) (hd : decode c.code g.pc = .ok (.baload, 1)) :
    ∀ target, Steps p.tables e below (T.setTop { g with pc := g.pc + 1, stack := v :: rest }) target → Steps p.tables e below (T.setTop g) target := by
  obtain ⟨cl, A, q⟩ := F
  subst hi
  exact X.baloadBooleans hx (by rw [eT]; exact A.1) (State.isArrayOf_alike hZ.alike A.2.1) A.2.2 (own_in q h1 (own_lt hv)) (own_at q hv) hg hs hd
theorem own_len (X : Stand p l e R s m args below meth c T locs cells slots) (hx : p.tables.exec = Jvm.exec) (hZ : Z.Warmed39 s.vm) (eT : T.heap = h) (F : own_L Z h a ty vs) {z : Int32} (hz : vs.length.toInt32 = z) {g : JFrame} (hg : g.method = m) {rest : List Value} (hs : g.stack = .ref a :: rest) (hd : decode c.code g.pc = .ok (.arraylength, 1)) :
    ∀ target, Steps p.tables e below (T.setTop { g with pc := g.pc + 1, stack := .int z :: rest }) target → Steps p.tables e below (T.setTop g) target := by
  obtain ⟨cl, A, q⟩ := F
  intro w k
  refine X.arraylength hx (by rw [eT]; exact A.1) (State.isArrayOf_alike hZ.alike A.2.1) hg hs hd w ?_
  have q2 : cl.slots.size.toInt32 = z := by rw [← hz, q]; simp
  rw [q2]; exact k
theorem own_bst (X : Stand p l e R s m args below meth c T locs cells slots) (hx : p.tables.exec = Jvm.exec) (hZ : Z.Warmed39 s.vm) (eT : T.heap = h) (F : own_L Z h a .byte vs) {j x : Int32} (i : Nat) (h1 : ¬ j < 0) (hi : j.toNatClampNeg = i) (h2 : i < vs.length) {g : JFrame} (hg : g.method = m) {rest : List Value} (hs : g.stack = .int x :: .int j :: .ref a :: rest) (hd : decode c.code g.pc = .ok (.bastore, 1)) :
    ∃ T' h', Stand p l e R s m args below meth c T' (locs ++ [⟨a, i⟩]) cells slots ∧ T'.heap = h' ∧ Wr h h' a i (.int x.toInt8.toInt32) ∧ own_L Z h' a .byte (vs.set i (.int x.toInt8.toInt32)) ∧ ∀ target, Steps p.tables e below (T'.setTop { g with pc := g.pc + 1, stack := rest }) target → Steps p.tables e below (T.setTop g) target := by
  obtain ⟨cl, A, q⟩ := F
  subst hi
  obtain ⟨T', h', X', e', W, st⟩ := stB X hx hZ eT A (own_in q h1 h2) hg hs hd
  exact ⟨T', h', X', e', W, own_L.same ⟨cl, A, q⟩ W, st⟩
theorem own_zst (X : Stand p l e R s m args below meth c T locs cells slots) (hx : p.tables.exec = Jvm.exec) (hZ : Z.Warmed39 s.vm) (eT : T.heap = h) (F : own_L Z h a .boolean vs) {j x : Int32} (i : Nat) (h1 : ¬ j < 0) (hi : j.toNatClampNeg = i) (h2 : i < vs.length) {g : JFrame} (hg : g.method = m) {rest : List Value} (hs : g.stack = .int x :: .int j :: .ref a :: rest) (hd : decode c.code g.pc = .ok (.bastore, 1)) :
    ∃ T' h', Stand p l e R s m args below meth c T' (locs ++ [⟨a, i⟩]) cells slots ∧ T'.heap = h' ∧ Wr h h' a i (.int (x &&& 1)) ∧ own_L Z h' a .boolean (vs.set i (.int (x &&& 1))) ∧ ∀ target, Steps p.tables e below (T'.setTop { g with pc := g.pc + 1, stack := rest }) target → Steps p.tables e below (T.setTop g) target := by
  obtain ⟨cl, A, q⟩ := F
  subst hi
  obtain ⟨T', h', X', e', W, st⟩ := stZ X hx hZ eT A (own_in q h1 h2) hg hs hd
  exact ⟨T', h', X', e', W, own_L.same ⟨cl, A, q⟩ W, st⟩
theorem own_jst (X : Stand p l e R s m args below meth c T locs cells slots) (hx : p.tables.exec = Jvm.exec) (hZ : Z.Warmed39 s.vm) (eT : T.heap = h) (F : own_L Z h a .long vs) {j : Int32} {x : Int64} (i : Nat) (h1 : ¬ j < 0) (hi : j.toNatClampNeg = i) (h2 : i < vs.length) {g : JFrame} (hg : g.method = m) {rest : List Value} (hs : g.stack = .long x :: .int j :: .ref a :: rest) (hd : decode c.code g.pc = .ok (.lastore, 1)) :
    ∃ T' h', Stand p l e R s m args below meth c T' (locs ++ [⟨a, i⟩]) cells slots ∧ T'.heap = h' ∧ Wr h h' a i (.long x) ∧ own_L Z h' a .long (vs.set i (.long x)) ∧ ∀ target, Steps p.tables e below (T'.setTop { g with pc := g.pc + 1, stack := rest }) target → Steps p.tables e below (T.setTop g) target := by
  obtain ⟨cl, A, q⟩ := F
  subst hi
  obtain ⟨T', h', X', e', W, st⟩ := stJ X hx hZ eT A (own_in q h1 h2) hg hs hd
  exact ⟨T', h', X', e', W, own_L.same ⟨cl, A, q⟩ W, st⟩
theorem own_ist (X : Stand p l e R s m args below meth c T locs cells slots) (hx : p.tables.exec = Jvm.exec) (hZ : Z.Warmed39 s.vm) (eT : T.heap = h) (F : own_L Z h a .int vs) {j x : Int32} (i : Nat) (h1 : ¬ j < 0) (hi : j.toNatClampNeg = i) (h2 : i < vs.length) {g : JFrame} (hg : g.method = m) {rest : List Value} (hs : g.stack = .int x :: .int j :: .ref a :: rest) (hd : decode c.code g.pc = .ok (.iastore, 1)) :
    ∃ T' h', Stand p l e R s m args below meth c T' (locs ++ [⟨a, i⟩]) cells slots ∧ T'.heap = h' ∧ Wr h h' a i (.int x) ∧ own_L Z h' a .int (vs.set i (.int x)) ∧ ∀ target, Steps p.tables e below (T'.setTop { g with pc := g.pc + 1, stack := rest }) target → Steps p.tables e below (T.setTop g) target := by
  obtain ⟨cl, A, q⟩ := F
  subst hi
  obtain ⟨T', h', X', e', W, st⟩ := stI X hx hZ eT A (own_in q h1 h2) hg hs hd
  exact ⟨T', h', X', e', W, own_L.same ⟨cl, A, q⟩ W, st⟩
theorem own_clone (X : Stand p l e R s m args below meth c T locs cells slots) (hx : p.tables.exec = Jvm.exec) (hZ : Z.Warmed39 s.vm) {a0 : Array Value} {own ad : String} {index : Nat} (hown : s.vm.findClass own = some m.cls)
    (w1 : (Cond.methodLink own index ⟨ad, "clone", "()Ljava/lang/Object;"⟩).before a0 Z = true) (w2 : (Cond.sameMethod ad "java/lang/Object" "clone" "()Ljava/lang/Object;").before a0 Z = true) (w3 : (Cond.native ⟨"java/lang/Object", "clone", "()Ljava/lang/Object;"⟩).before a0 Z = true)
    (w4 : (Cond.instanceMethod ⟨"java/lang/Object", "clone", "()Ljava/lang/Object;"⟩).before a0 Z = true) (w5 : (Cond.selects ad ⟨ad, "clone", "()Ljava/lang/Object;"⟩ ⟨"java/lang/Object", "clone", "()Ljava/lang/Object;"⟩).before a0 Z = true) (w6 : (Cond.castable ad "java/lang/Cloneable").before a0 Z = true)
    (eT : T.heap = h) (F : own_L Z h a ty vs) (E : Exa Z h a ad) (hfit : ∀ v ∈ vs, fits ty v = true) {g : JFrame} (hg : g.method = m) (hsize : g.locals.size = c.maxLocals) {rest : List Value} (hs : g.stack = .ref a :: rest) (hd : decode c.code g.pc = .ok (.invokevirtual index, 3))
    (hf : 1 ≤ R.frames) {W cap : Nat} (hW : 2 * g.monitorRoom + (rest.map fun v => v.category).sum ≤ W) (hl : W + 14 ≤ R.locals) (hcap : vs.length ≤ cap) (hc : cells + 1 ≤ R.cells) (hsl : slots + cap ≤ R.slots) :
    ∃ T' h', Stand p l e R s m args below meth c T' locs (cells + 1) (slots + cap) ∧ T'.heap = h' ∧ Ext h h' ∧ own_L Z h' h.size ty vs ∧ Exa Z h' h.size ad ∧
      ∀ target, Steps p.tables e below (T'.setTop { g with pc := g.pc + 3, stack := .ref h.size :: rest }) target → Steps p.tables e below (T.setTop g) target := by
  obtain ⟨cl, A, q⟩ := F
  have FC : FitC Z cl := fitC_of A fun i hi v hv => hfit v (by
    rw [q] at hv
    exact List.mem_of_getElem? (by simpa using hv))
  obtain ⟨T', h', X', e', ex, A', E', st⟩ := cloneA X hx hZ hown w1 w2 w3 w4 w5 w6 eT A E FC hg hsize hs hd hf hW hl (by rw [q]; simpa using hcap) hc hsl
  exact ⟨T', h', X', e', ex, ⟨cloneOf cl, A', q⟩, E', st⟩
end Own
theorem own_sm (q : Int32) (k : Nat) (hk : q.toBitVec.toNat % 64 = k) : (q &&& 0x3f).toInt64.toBitVec = BitVec.ofNat 64 k ∧ k < 64 := by
  have hk' : k < 64 := by omega
  refine ⟨?_, hk'⟩
  have h1 : (q &&& 0x3f).toBitVec = BitVec.ofNat 32 k := by
    apply BitVec.eq_of_toNat_eq
    have : (q &&& 0x3f).toBitVec = q.toBitVec &&& 0x3f#32 := rfl
    rw [this, BitVec.toNat_and]
    have e : (0x3f#32).toNat = 2^6 - 1 := rfl
    rw [e, Nat.and_two_pow_sub_one_eq_mod, BitVec.toNat_ofNat]
    omega
  show ((q &&& 0x3f).toBitVec).signExtend 64 = _
  rw [h1]
  have hm : (BitVec.ofNat 32 k).msb = false := by
    rw [BitVec.msb_eq_decide]; simp; omega
  rw [BitVec.signExtend_eq_setWidth_of_msb_false hm]
  apply BitVec.eq_of_toNat_eq
  simp
  omega
theorem own_smod (k : Nat) (h : k < 64) : ((BitVec.ofNat 64 k).smod 64#64).toNat = k := by
  have : ∀ k : Fin 64, ((BitVec.ofNat 64 k.val).smod 64#64).toNat = k.val := by decide
  exact this ⟨k, h⟩
theorem own_lushr (x : Int64) (q : Int32) (k : Nat) (hk : q.toBitVec.toNat % 64 = k) : ((x.toUInt64 >>> (q &&& 0x3f).toInt64.toUInt64).toInt64).toBitVec = x.toBitVec >>> k := by
  obtain ⟨h, hk'⟩ := own_sm q k hk
  show (x.toBitVec >>> ((q &&& 0x3f).toInt64.toBitVec % 64#64).toNat) = _
  rw [h]
  congr 1
  simp
  omega
theorem own_lshl (x : Int64) (q : Int32) (k : Nat) (hk : q.toBitVec.toNat % 64 = k) : (x <<< (q &&& 0x3f).toInt64).toBitVec = x.toBitVec <<< k := by
  obtain ⟨h, hk'⟩ := own_sm q k hk
  show (x.toBitVec <<< ((q &&& 0x3f).toInt64.toBitVec.smod 64#64).toNat) = _
  rw [h, own_smod k hk']
theorem own_lshr (x : Int64) (q : Int32) (k : Nat) (hk : q.toBitVec.toNat % 64 = k) : (x >>> (q &&& 0x3f).toInt64).toBitVec = x.toBitVec.sshiftRight k := by
  obtain ⟨h, hk'⟩ := own_sm q k hk
  show (x.toBitVec.sshiftRight ((q &&& 0x3f).toInt64.toBitVec.smod 64#64).toNat) = _
  rw [h, own_smod k hk']
theorem own_255 : ∀ i : Fin 64, (255#64).getLsbD i.val = decide (i.val < 8) := by decide
theorem own_b8 (y : Int64) : ((((((y.toInt32).toInt8.toInt32).toInt8.toInt32).toInt64) &&& (255 : Int64)).toBitVec) = y.toBitVec &&& 255#64 := by
  have h1 : ∀ z : Int32, z.toInt8.toInt32.toInt8.toInt32 = z.toInt8.toInt32 := fun z => by simp
  rw [h1]
  show ((((y.toBitVec.signExtend 32).signExtend 8).signExtend 32).signExtend 64) &&& 255#64 = _
  apply BitVec.eq_of_getLsbD_eq
  intro i hi
  rw [BitVec.getLsbD_and, BitVec.getLsbD_and, own_255 ⟨i, hi⟩]
  by_cases q : i < 8
  · have q1 : i < 32 := by omega
    rw [BitVec.getLsbD_signExtend, BitVec.getLsbD_signExtend, BitVec.getLsbD_signExtend, BitVec.getLsbD_signExtend]
    simp [q, hi, q1]
  · simp [q]
def own_by (y : Int64) : Int64 := (((((y.toInt32).toInt8.toInt32).toInt8.toInt32).toInt64) &&& (255 : Int64))
theorem own_byb (y : Int64) (i : Nat) : (own_by y).toBitVec.getLsbD i = (decide (i < 8) && y.toBitVec.getLsbD i) := by
  show (((((((y.toInt32).toInt8.toInt32).toInt8.toInt32).toInt64) &&& (255 : Int64)).toBitVec)).getLsbD i = _
  rw [own_b8, BitVec.getLsbD_and]
  by_cases hi : i < 64
  · rw [own_255 ⟨i, hi⟩, Bool.and_comm]
  · rw [BitVec.getLsbD_of_ge _ i (by omega)]; simp
abbrev own_r (k : Int64) (q : Int32) : Int64 := ((k.toUInt64 >>> (q &&& 0x3f).toInt64.toUInt64).toInt64)
abbrev own_s (k : Int64) (q : Int32) : Int64 := (k <<< (q &&& 0x3f).toInt64)
theorem own_pc (k : Int64) (q : Int32) (n : Nat) (hq : q.toBitVec.toNat % 64 = n) (i : Nat) : (own_s (own_by (own_r k q)) q).toBitVec.getLsbD i = (decide (i < 64) && decide (n ≤ i) && decide (i < n + 8) && k.toBitVec.getLsbD i) := by
  show (own_s (own_by (own_r k q)) q).toBitVec.getLsbD i = _
  rw [own_lshl _ q n hq, BitVec.getLsbD_shiftLeft, own_byb, own_lushr _ q n hq, BitVec.getLsbD_ushiftRight]
  by_cases h1 : n ≤ i
  · rw [show n + (i - n) = i by omega]
    have h2 : (i - n < 8) = (i < n + 8) := by apply propext; omega
    have h3 : ¬ i < n := by omega
    simp [h1, h2, h3, Bool.and_assoc]
  · have h3 : i < n := by omega
    simp [h1, h3]
theorem own_law (k : Int64) : ((((((((own_by (own_r k 0)) ||| own_s (own_by (own_r k 8)) 8) ||| own_s (own_by (own_r k 16)) 16) ||| own_s (own_by (own_r k 24)) 24) ||| own_s (own_by (own_r k 32)) 32) ||| own_s (own_by (own_r k 40)) 40) ||| own_s (own_by (own_r k 48)) 48) ||| own_s (own_by (own_r k 56)) 56) = k := by
  apply Int64.toBitVec_inj.mp
  apply BitVec.eq_of_getLsbD_eq
  intro i hi
  show (((((((((own_by (own_r k 0)).toBitVec ||| (own_s (own_by (own_r k 8)) 8).toBitVec) ||| (own_s (own_by (own_r k 16)) 16).toBitVec) ||| (own_s (own_by (own_r k 24)) 24).toBitVec) ||| (own_s (own_by (own_r k 32)) 32).toBitVec) ||| (own_s (own_by (own_r k 40)) 40).toBitVec) ||| (own_s (own_by (own_r k 48)) 48).toBitVec) ||| (own_s (own_by (own_r k 56)) 56).toBitVec)).getLsbD i = _
  simp only [BitVec.getLsbD_or]
  rw [own_pc k 8 8 (by decide), own_pc k 16 16 (by decide), own_pc k 24 24 (by decide), own_pc k 32 32 (by decide), own_pc k 40 40 (by decide), own_pc k 48 48 (by decide), own_pc k 56 56 (by decide), own_byb, own_lushr k 0 0 (by decide)]
  simp only [hi, BitVec.ushiftRight_zero]
  cases k.toBitVec.getLsbD i
  · simp
  · simp; omega
theorem pn_0 : plainName "com/example/out_filter/outfilter/Keys" = true := by first | (simp [plainName, overriddenIn]; done) | decide +kernel
theorem d1_0 : decode prog_15_method_3_code 0 = .ok (.bipush 8, 2) := by decide +kernel
theorem d1_2 : decode prog_15_method_3_code 2 = .ok (.newarray .byte, 2) := by decide +kernel
theorem d1_4 : decode prog_15_method_3_code 4 = .ok (.astore_n 2, 1) := by decide +kernel
theorem d1_5 : decode prog_15_method_3_code 5 = .ok (.iconst 0, 1) := by decide +kernel
theorem d1_6 : decode prog_15_method_3_code 6 = .ok (.istore_n 3, 1) := by decide +kernel
theorem d1_7 : decode prog_15_method_3_code 7 = .ok (.iload_n 3, 1) := by decide +kernel
theorem d1_8 : decode prog_15_method_3_code 8 = .ok (.aload_n 2, 1) := by decide +kernel
theorem d1_9 : decode prog_15_method_3_code 9 = .ok (.arraylength, 1) := by decide +kernel
theorem d1_10 : decode prog_15_method_3_code 10 = .ok (.if_icmp .ge 20, 3) := by decide +kernel
theorem d1_13 : decode prog_15_method_3_code 13 = .ok (.aload_n 2, 1) := by decide +kernel
theorem d1_14 : decode prog_15_method_3_code 14 = .ok (.iload_n 3, 1) := by decide +kernel
theorem d1_15 : decode prog_15_method_3_code 15 = .ok (.lload_n 0, 1) := by decide +kernel
theorem d1_16 : decode prog_15_method_3_code 16 = .ok (.bipush 8, 2) := by decide +kernel
theorem d1_18 : decode prog_15_method_3_code 18 = .ok (.iload_n 3, 1) := by decide +kernel
theorem d1_19 : decode prog_15_method_3_code 19 = .ok (.imul, 1) := by decide +kernel
theorem d1_20 : decode prog_15_method_3_code 20 = .ok (.lushr, 1) := by decide +kernel
theorem d1_21 : decode prog_15_method_3_code 21 = .ok (.l2i, 1) := by decide +kernel
theorem d1_22 : decode prog_15_method_3_code 22 = .ok (.i2b, 1) := by decide +kernel
theorem d1_23 : decode prog_15_method_3_code 23 = .ok (.bastore, 1) := by decide +kernel
theorem d1_24 : decode prog_15_method_3_code 24 = .ok (.iinc 3 1, 3) := by decide +kernel
theorem d1_27 : decode prog_15_method_3_code 27 = .ok (.goto (-20), 3) := by decide +kernel
theorem d1_30 : decode prog_15_method_3_code 30 = .ok (.aload_n 2, 1) := by decide +kernel
theorem d1_31 : decode prog_15_method_3_code 31 = .ok (.areturn, 1) := by decide +kernel
theorem ef_rm1 (m : MethodId) (q0 : Int64) : entryFrame m #[(.long q0)] 4 = mkF m 0 #[.val (.long q0), .second, .unset, .unset] [] := by first | rfl | (simp [entryFrame, mkF, argsToLocals, Value.category]; done)
def Q1 (Z : State) (q0 : Int64) (h0 : Heap) (n0 : Nat) (rv : Option Value) (hq : Heap) (Lq : List Loc) : Prop := ∃ bb : Addr, rv = some (.ref bb) ∧ Fr n0 Lq ∧ h0.size ≤ bb ∧ Keep h0 hq [] ∧ own_L Z hq bb .byte ([(.int (((((q0.toUInt64 >>> ((0 : Int32) &&& 0x3f).toInt64.toUInt64).toInt64).toInt32).toInt8.toInt32).toInt8.toInt32)), (.int (((((q0.toUInt64 >>> ((8 : Int32) &&& 0x3f).toInt64.toUInt64).toInt64).toInt32).toInt8.toInt32).toInt8.toInt32)), (.int (((((q0.toUInt64 >>> ((16 : Int32) &&& 0x3f).toInt64.toUInt64).toInt64).toInt32).toInt8.toInt32).toInt8.toInt32)), (.int (((((q0.toUInt64 >>> ((24 : Int32) &&& 0x3f).toInt64.toUInt64).toInt64).toInt32).toInt8.toInt32).toInt8.toInt32)), (.int (((((q0.toUInt64 >>> ((32 : Int32) &&& 0x3f).toInt64.toUInt64).toInt64).toInt32).toInt8.toInt32).toInt8.toInt32)), (.int (((((q0.toUInt64 >>> ((40 : Int32) &&& 0x3f).toInt64.toUInt64).toInt64).toInt32).toInt8.toInt32).toInt8.toInt32)), (.int (((((q0.toUInt64 >>> ((48 : Int32) &&& 0x3f).toInt64.toUInt64).toInt64).toInt32).toInt8.toInt32).toInt8.toInt32)), (.int (((((q0.toUInt64 >>> ((56 : Int32) &&& 0x3f).toInt64.toUInt64).toInt64).toInt32).toInt8.toInt32).toInt8.toInt32))])
set_option maxRecDepth 65536 in
set_option maxHeartbeats 40000000 in
theorem rm1 (l : Launch) (Z : State) (a0 : Array Value) (hw : ∀ d ∈ tables_1, d.before a0 Z = true) (ws : List Jvm.Cond) (q0 : Int64) (h0 : Heap) (n0 : Nat) (Z0 : n0 ≤ h0.size) :
    MetFree l (⟨"com/example/out_filter/outfilter/Keys", "littleEndian", "(J)[B"⟩ : MethodName) (head1 (Jvm.Cond.code (⟨"com/example/out_filter/outfilter/Keys", "littleEndian", "(J)[B"⟩ : MethodName) prog_15_method_3_code 4 (some (.array .byte)) :: ws) ({ frames := 0, cells := 1, slots := 8, locals := 0 } : Room)) (fun za U => za = #[(.long q0)] ∧ Z.Warmed39 U.vm ∧ U.heap = h0) (fun _ _ _ _ _ => True) (fun _ U o U' => ∃ rv Lq, o = .returned rv ∧ Q1 Z q0 h0 n0 rv U'.heap Lq ∧ FrameEnd U o U' Lq ({ frames := 0, cells := 1, slots := 8, locals := 0 } : Room).cells ({ frames := 0, cells := 1, slots := 8, locals := 0 } : Room).slots) := by
  refine MetFree.of_bodySF (plainFor_of_name pn_0) hisR ?_
  intro p e s m args below meth c s₁ Bd hml0 hP hK
  obtain ⟨rfl, hZ, hh⟩ := hP
  have hx := Bd.exec
  have hby := Bd.bytes
  have hml : c.maxLocals = 4 := hml0
  have hown : s.vm.findClass "com/example/out_filter/outfilter/Keys" = some m.cls := findClass_of_methodNamed Bd.named
  have hnm := (name_of_methodNamed Bd.named Bd.method).1
  have X0 : Stand p l e ({ frames := 0, cells := 1, slots := 8, locals := 0 } : Room) s m #[(.long q0)] below meth c s₁ [] 0 0 := Stand.of_body Bd
  have e0 : s₁.heap = h0 := by rw [← hh, Bd.state]; rfl
  have N0 := Fr.nil n0
  refine own_out (own_nm fun G hG => own_st (fun zt zk => castTop (ef_rm1 m q0) zk) ?_)
  show own_Go p e below G (s₁.setTop (mkF m 0 #[.val (.long q0), .second, .unset, .unset] []))
  refine own_st (fun zw zk => XS.bipush X0.here hx rfl (hb hby d1_0) zk) ?_
  obtain ⟨T1, h1, k1, X1, e1, E1, A1, st1⟩ := newP X0 hx hZ (hw _ (List.mem_of_getElem? (i := 4) rfl)) e0 (g := (mkF m 2 #[.val (.long q0), .second, .unset, .unset] [(.int (8 : Int32))])) rfl (hb hby d1_2) rfl (by decide) (cap := 8) (by decide) (by decide) (by decide) (by decide)
  obtain ⟨b1, g1⟩ : ∃ z, z = h0.size := ⟨_, rfl⟩
  rw [← g1] at A1 st1
  have G1 : n0 ≤ b1 := Nat.le_trans Z0 (Nat.le_of_eq g1.symm)
  have Z1 : n0 ≤ h1.size := Nat.le_trans Z0 E1.1
  have sz1 : h0.size ≤ b1 := Nat.le_trans (Keep.refl h0 []).1 (Nat.le_of_eq g1.symm)
  have Kp1 := (Keep.refl h0 []).ext E1
  have V1 : own_L Z h1 b1 .byte ([(.int (0 : Int32)), (.int (0 : Int32)), (.int (0 : Int32)), (.int (0 : Int32)), (.int (0 : Int32)), (.int (0 : Int32)), (.int (0 : Int32)), (.int (0 : Int32))]) := own_L.new A1
  refine own_st (fun zw zk => st1 zw zk) ?_
  refine own_st (fun zw zk => XS.astoreN X1.here hx rfl (hb hby d1_4) rfl rfl rfl zk) ?_
  show own_Go p e below G (T1.setTop (mkF m 5 #[.val (.long q0), .second, .val (.ref b1), .unset] []))
  refine own_st (fun zw zk => XS.iconst X1.here hx rfl (hb hby d1_5) zk) ?_
  refine own_st (fun zw zk => XS.istoreN X1.here hx rfl (hb hby d1_6) rfl rfl zk) ?_
  show own_Go p e below G (T1.setTop (mkF m 7 #[.val (.long q0), .second, .val (.ref b1), .val (.int (0 : Int32))] []))
  refine own_st (fun zw zk => XS.iloadN X1.here hx rfl (hb hby d1_7) rfl zk) ?_
  refine own_st (fun zw zk => XS.aloadN X1.here hx rfl (hb hby d1_8) rfl rfl zk) ?_
  refine own_st (fun zw zk => own_len X1 hx hZ e1 V1 (z := (8 : Int32)) (rfl) (g := (mkF m 9 #[.val (.long q0), .second, .val (.ref b1), .val (.int (0 : Int32))] [(.ref b1), (.int (0 : Int32))])) rfl rfl (hb hby d1_9) _ zk) ?_
  refine own_st (fun zw zk => XS.icmpNo X1.here hx rfl (hb hby d1_10) rfl (tlt (by decide : (0 : Int32) < (8 : Int32))).2.1 zk) ?_
  refine own_st (fun zw zk => XS.aloadN X1.here hx rfl (hb hby d1_13) rfl rfl zk) ?_
  refine own_st (fun zw zk => XS.iloadN X1.here hx rfl (hb hby d1_14) rfl zk) ?_
  refine own_st (fun zw zk => XS.lloadN X1.here hx rfl (hb hby d1_15) rfl zk) ?_
  refine own_st (fun zw zk => XS.bipush X1.here hx rfl (hb hby d1_16) zk) ?_
  show own_Go p e below G (T1.setTop (mkF m 18 #[.val (.long q0), .second, .val (.ref b1), .val (.int (0 : Int32))] [(.int (8 : Int32)), (.long q0), (.int (0 : Int32)), (.ref b1)]))
  refine own_st (fun zw zk => XS.iloadN X1.here hx rfl (hb hby d1_18) rfl zk) ?_
  refine own_st (fun zw zk => XS.imul X1.here hx rfl (hb hby d1_19) rfl zk) ?_
  refine own_st (fun zw zk => XS.lushr X1.here hx rfl (hb hby d1_20) rfl zk) ?_
  refine own_st (fun zw zk => XS.l2i X1.here hx rfl (hb hby d1_21) rfl zk) ?_
  refine own_st (fun zw zk => XS.i2b X1.here hx rfl (hb hby d1_22) rfl zk) ?_
  obtain ⟨T2, h2, X2, e2, W2, V2, st2⟩ := own_bst X1 hx hZ e1 V1 (j := (0 : Int32)) (0) (by decide) (by decide) (Nat.le_of_ble_eq_true rfl) (g := (mkF m 23 #[.val (.long q0), .second, .val (.ref b1), .val (.int (0 : Int32))] [(.int ((((q0.toUInt64 >>> ((0 : Int32) &&& 0x3f).toInt64.toUInt64).toInt64).toInt32).toInt8.toInt32)), (.int (0 : Int32)), (.ref b1)])) rfl rfl (hb hby d1_23)
  have Vb1_2 : own_L Z h2 b1 .byte ([(.int (((((q0.toUInt64 >>> ((0 : Int32) &&& 0x3f).toInt64.toUInt64).toInt64).toInt32).toInt8.toInt32).toInt8.toInt32)), (.int (0 : Int32)), (.int (0 : Int32)), (.int (0 : Int32)), (.int (0 : Int32)), (.int (0 : Int32)), (.int (0 : Int32)), (.int (0 : Int32))]) := V2
  have N2 := Fr.snoc X2 N0 G1
  refine own_st (fun zw zk => st2 zw zk) ?_
  have Z2 : n0 ≤ h2.size := Nat.le_trans Z1 (Keep.of_wr W2).1
  have Kp2 := Kp1.wr W2 (Or.inr sz1)
  refine own_st (fun zw zk => XS.iinc X2.here hx rfl (hb hby d1_24) rfl rfl zk) ?_
  show own_Go p e below G (T2.setTop (mkF m 27 #[.val (.long q0), .second, .val (.ref b1), .val (.int (1 : Int32))] []))
  refine own_st (fun zw zk => XS.goto X2.here hx rfl (pc0 := 27) (pc' := 7) rfl (hb hby d1_27) (by decide) (by decide) zk) ?_
  show own_Go p e below G (T2.setTop (mkF m 7 #[.val (.long q0), .second, .val (.ref b1), .val (.int (1 : Int32))] []))
  refine own_st (fun zw zk => XS.iloadN X2.here hx rfl (hb hby d1_7) rfl zk) ?_
  refine own_st (fun zw zk => XS.aloadN X2.here hx rfl (hb hby d1_8) rfl rfl zk) ?_
  refine own_st (fun zw zk => own_len X2 hx hZ e2 Vb1_2 (z := (8 : Int32)) (rfl) (g := (mkF m 9 #[.val (.long q0), .second, .val (.ref b1), .val (.int (1 : Int32))] [(.ref b1), (.int (1 : Int32))])) rfl rfl (hb hby d1_9) _ zk) ?_
  refine own_st (fun zw zk => XS.icmpNo X2.here hx rfl (hb hby d1_10) rfl (tlt (by decide : (1 : Int32) < (8 : Int32))).2.1 zk) ?_
  refine own_st (fun zw zk => XS.aloadN X2.here hx rfl (hb hby d1_13) rfl rfl zk) ?_
  refine own_st (fun zw zk => XS.iloadN X2.here hx rfl (hb hby d1_14) rfl zk) ?_
  refine own_st (fun zw zk => XS.lloadN X2.here hx rfl (hb hby d1_15) rfl zk) ?_
  refine own_st (fun zw zk => XS.bipush X2.here hx rfl (hb hby d1_16) zk) ?_
  show own_Go p e below G (T2.setTop (mkF m 18 #[.val (.long q0), .second, .val (.ref b1), .val (.int (1 : Int32))] [(.int (8 : Int32)), (.long q0), (.int (1 : Int32)), (.ref b1)]))
  refine own_st (fun zw zk => XS.iloadN X2.here hx rfl (hb hby d1_18) rfl zk) ?_
  refine own_st (fun zw zk => XS.imul X2.here hx rfl (hb hby d1_19) rfl zk) ?_
  refine own_st (fun zw zk => XS.lushr X2.here hx rfl (hb hby d1_20) rfl zk) ?_
  refine own_st (fun zw zk => XS.l2i X2.here hx rfl (hb hby d1_21) rfl zk) ?_
  refine own_st (fun zw zk => XS.i2b X2.here hx rfl (hb hby d1_22) rfl zk) ?_
  obtain ⟨T3, h3, X3, e3, W3, V3, st3⟩ := own_bst X2 hx hZ e2 Vb1_2 (j := (1 : Int32)) (1) (by decide) (by decide) (Nat.le_of_ble_eq_true rfl) (g := (mkF m 23 #[.val (.long q0), .second, .val (.ref b1), .val (.int (1 : Int32))] [(.int ((((q0.toUInt64 >>> ((8 : Int32) &&& 0x3f).toInt64.toUInt64).toInt64).toInt32).toInt8.toInt32)), (.int (1 : Int32)), (.ref b1)])) rfl rfl (hb hby d1_23)
  have Vb1_3 : own_L Z h3 b1 .byte ([(.int (((((q0.toUInt64 >>> ((0 : Int32) &&& 0x3f).toInt64.toUInt64).toInt64).toInt32).toInt8.toInt32).toInt8.toInt32)), (.int (((((q0.toUInt64 >>> ((8 : Int32) &&& 0x3f).toInt64.toUInt64).toInt64).toInt32).toInt8.toInt32).toInt8.toInt32)), (.int (0 : Int32)), (.int (0 : Int32)), (.int (0 : Int32)), (.int (0 : Int32)), (.int (0 : Int32)), (.int (0 : Int32))]) := V3
  have N3 := Fr.snoc X3 N2 G1
  refine own_st (fun zw zk => st3 zw zk) ?_
  have Z3 : n0 ≤ h3.size := Nat.le_trans Z2 (Keep.of_wr W3).1
  have Kp3 := Kp2.wr W3 (Or.inr sz1)
  refine own_st (fun zw zk => XS.iinc X3.here hx rfl (hb hby d1_24) rfl rfl zk) ?_
  show own_Go p e below G (T3.setTop (mkF m 27 #[.val (.long q0), .second, .val (.ref b1), .val (.int (2 : Int32))] []))
  refine own_st (fun zw zk => XS.goto X3.here hx rfl (pc0 := 27) (pc' := 7) rfl (hb hby d1_27) (by decide) (by decide) zk) ?_
  show own_Go p e below G (T3.setTop (mkF m 7 #[.val (.long q0), .second, .val (.ref b1), .val (.int (2 : Int32))] []))
  refine own_st (fun zw zk => XS.iloadN X3.here hx rfl (hb hby d1_7) rfl zk) ?_
  refine own_st (fun zw zk => XS.aloadN X3.here hx rfl (hb hby d1_8) rfl rfl zk) ?_
  refine own_st (fun zw zk => own_len X3 hx hZ e3 Vb1_3 (z := (8 : Int32)) (rfl) (g := (mkF m 9 #[.val (.long q0), .second, .val (.ref b1), .val (.int (2 : Int32))] [(.ref b1), (.int (2 : Int32))])) rfl rfl (hb hby d1_9) _ zk) ?_
  refine own_st (fun zw zk => XS.icmpNo X3.here hx rfl (hb hby d1_10) rfl (tlt (by decide : (2 : Int32) < (8 : Int32))).2.1 zk) ?_
  refine own_st (fun zw zk => XS.aloadN X3.here hx rfl (hb hby d1_13) rfl rfl zk) ?_
  refine own_st (fun zw zk => XS.iloadN X3.here hx rfl (hb hby d1_14) rfl zk) ?_
  refine own_st (fun zw zk => XS.lloadN X3.here hx rfl (hb hby d1_15) rfl zk) ?_
  refine own_st (fun zw zk => XS.bipush X3.here hx rfl (hb hby d1_16) zk) ?_
  show own_Go p e below G (T3.setTop (mkF m 18 #[.val (.long q0), .second, .val (.ref b1), .val (.int (2 : Int32))] [(.int (8 : Int32)), (.long q0), (.int (2 : Int32)), (.ref b1)]))
  refine own_st (fun zw zk => XS.iloadN X3.here hx rfl (hb hby d1_18) rfl zk) ?_
  refine own_st (fun zw zk => XS.imul X3.here hx rfl (hb hby d1_19) rfl zk) ?_
  refine own_st (fun zw zk => XS.lushr X3.here hx rfl (hb hby d1_20) rfl zk) ?_
  refine own_st (fun zw zk => XS.l2i X3.here hx rfl (hb hby d1_21) rfl zk) ?_
  refine own_st (fun zw zk => XS.i2b X3.here hx rfl (hb hby d1_22) rfl zk) ?_
  obtain ⟨T4, h4, X4, e4, W4, V4, st4⟩ := own_bst X3 hx hZ e3 Vb1_3 (j := (2 : Int32)) (2) (by decide) (by decide) (Nat.le_of_ble_eq_true rfl) (g := (mkF m 23 #[.val (.long q0), .second, .val (.ref b1), .val (.int (2 : Int32))] [(.int ((((q0.toUInt64 >>> ((16 : Int32) &&& 0x3f).toInt64.toUInt64).toInt64).toInt32).toInt8.toInt32)), (.int (2 : Int32)), (.ref b1)])) rfl rfl (hb hby d1_23)
  have Vb1_4 : own_L Z h4 b1 .byte ([(.int (((((q0.toUInt64 >>> ((0 : Int32) &&& 0x3f).toInt64.toUInt64).toInt64).toInt32).toInt8.toInt32).toInt8.toInt32)), (.int (((((q0.toUInt64 >>> ((8 : Int32) &&& 0x3f).toInt64.toUInt64).toInt64).toInt32).toInt8.toInt32).toInt8.toInt32)), (.int (((((q0.toUInt64 >>> ((16 : Int32) &&& 0x3f).toInt64.toUInt64).toInt64).toInt32).toInt8.toInt32).toInt8.toInt32)), (.int (0 : Int32)), (.int (0 : Int32)), (.int (0 : Int32)), (.int (0 : Int32)), (.int (0 : Int32))]) := V4
  have N4 := Fr.snoc X4 N3 G1
  refine own_st (fun zw zk => st4 zw zk) ?_
  have Z4 : n0 ≤ h4.size := Nat.le_trans Z3 (Keep.of_wr W4).1
  have Kp4 := Kp3.wr W4 (Or.inr sz1)
  refine own_st (fun zw zk => XS.iinc X4.here hx rfl (hb hby d1_24) rfl rfl zk) ?_
  show own_Go p e below G (T4.setTop (mkF m 27 #[.val (.long q0), .second, .val (.ref b1), .val (.int (3 : Int32))] []))
  refine own_st (fun zw zk => XS.goto X4.here hx rfl (pc0 := 27) (pc' := 7) rfl (hb hby d1_27) (by decide) (by decide) zk) ?_
  show own_Go p e below G (T4.setTop (mkF m 7 #[.val (.long q0), .second, .val (.ref b1), .val (.int (3 : Int32))] []))
  refine own_st (fun zw zk => XS.iloadN X4.here hx rfl (hb hby d1_7) rfl zk) ?_
  refine own_st (fun zw zk => XS.aloadN X4.here hx rfl (hb hby d1_8) rfl rfl zk) ?_
  refine own_st (fun zw zk => own_len X4 hx hZ e4 Vb1_4 (z := (8 : Int32)) (rfl) (g := (mkF m 9 #[.val (.long q0), .second, .val (.ref b1), .val (.int (3 : Int32))] [(.ref b1), (.int (3 : Int32))])) rfl rfl (hb hby d1_9) _ zk) ?_
  refine own_st (fun zw zk => XS.icmpNo X4.here hx rfl (hb hby d1_10) rfl (tlt (by decide : (3 : Int32) < (8 : Int32))).2.1 zk) ?_
  refine own_st (fun zw zk => XS.aloadN X4.here hx rfl (hb hby d1_13) rfl rfl zk) ?_
  refine own_st (fun zw zk => XS.iloadN X4.here hx rfl (hb hby d1_14) rfl zk) ?_
  refine own_st (fun zw zk => XS.lloadN X4.here hx rfl (hb hby d1_15) rfl zk) ?_
  refine own_st (fun zw zk => XS.bipush X4.here hx rfl (hb hby d1_16) zk) ?_
  show own_Go p e below G (T4.setTop (mkF m 18 #[.val (.long q0), .second, .val (.ref b1), .val (.int (3 : Int32))] [(.int (8 : Int32)), (.long q0), (.int (3 : Int32)), (.ref b1)]))
  refine own_st (fun zw zk => XS.iloadN X4.here hx rfl (hb hby d1_18) rfl zk) ?_
  refine own_st (fun zw zk => XS.imul X4.here hx rfl (hb hby d1_19) rfl zk) ?_
  refine own_st (fun zw zk => XS.lushr X4.here hx rfl (hb hby d1_20) rfl zk) ?_
  refine own_st (fun zw zk => XS.l2i X4.here hx rfl (hb hby d1_21) rfl zk) ?_
  refine own_st (fun zw zk => XS.i2b X4.here hx rfl (hb hby d1_22) rfl zk) ?_
  obtain ⟨T5, h5, X5, e5, W5, V5, st5⟩ := own_bst X4 hx hZ e4 Vb1_4 (j := (3 : Int32)) (3) (by decide) (by decide) (Nat.le_of_ble_eq_true rfl) (g := (mkF m 23 #[.val (.long q0), .second, .val (.ref b1), .val (.int (3 : Int32))] [(.int ((((q0.toUInt64 >>> ((24 : Int32) &&& 0x3f).toInt64.toUInt64).toInt64).toInt32).toInt8.toInt32)), (.int (3 : Int32)), (.ref b1)])) rfl rfl (hb hby d1_23)
  have Vb1_5 : own_L Z h5 b1 .byte ([(.int (((((q0.toUInt64 >>> ((0 : Int32) &&& 0x3f).toInt64.toUInt64).toInt64).toInt32).toInt8.toInt32).toInt8.toInt32)), (.int (((((q0.toUInt64 >>> ((8 : Int32) &&& 0x3f).toInt64.toUInt64).toInt64).toInt32).toInt8.toInt32).toInt8.toInt32)), (.int (((((q0.toUInt64 >>> ((16 : Int32) &&& 0x3f).toInt64.toUInt64).toInt64).toInt32).toInt8.toInt32).toInt8.toInt32)), (.int (((((q0.toUInt64 >>> ((24 : Int32) &&& 0x3f).toInt64.toUInt64).toInt64).toInt32).toInt8.toInt32).toInt8.toInt32)), (.int (0 : Int32)), (.int (0 : Int32)), (.int (0 : Int32)), (.int (0 : Int32))]) := V5
  have N5 := Fr.snoc X5 N4 G1
  refine own_st (fun zw zk => st5 zw zk) ?_
  have Z5 : n0 ≤ h5.size := Nat.le_trans Z4 (Keep.of_wr W5).1
  have Kp5 := Kp4.wr W5 (Or.inr sz1)
  refine own_st (fun zw zk => XS.iinc X5.here hx rfl (hb hby d1_24) rfl rfl zk) ?_
  show own_Go p e below G (T5.setTop (mkF m 27 #[.val (.long q0), .second, .val (.ref b1), .val (.int (4 : Int32))] []))
  refine own_st (fun zw zk => XS.goto X5.here hx rfl (pc0 := 27) (pc' := 7) rfl (hb hby d1_27) (by decide) (by decide) zk) ?_
  show own_Go p e below G (T5.setTop (mkF m 7 #[.val (.long q0), .second, .val (.ref b1), .val (.int (4 : Int32))] []))
  refine own_st (fun zw zk => XS.iloadN X5.here hx rfl (hb hby d1_7) rfl zk) ?_
  refine own_st (fun zw zk => XS.aloadN X5.here hx rfl (hb hby d1_8) rfl rfl zk) ?_
  refine own_st (fun zw zk => own_len X5 hx hZ e5 Vb1_5 (z := (8 : Int32)) (rfl) (g := (mkF m 9 #[.val (.long q0), .second, .val (.ref b1), .val (.int (4 : Int32))] [(.ref b1), (.int (4 : Int32))])) rfl rfl (hb hby d1_9) _ zk) ?_
  refine own_st (fun zw zk => XS.icmpNo X5.here hx rfl (hb hby d1_10) rfl (tlt (by decide : (4 : Int32) < (8 : Int32))).2.1 zk) ?_
  refine own_st (fun zw zk => XS.aloadN X5.here hx rfl (hb hby d1_13) rfl rfl zk) ?_
  refine own_st (fun zw zk => XS.iloadN X5.here hx rfl (hb hby d1_14) rfl zk) ?_
  refine own_st (fun zw zk => XS.lloadN X5.here hx rfl (hb hby d1_15) rfl zk) ?_
  refine own_st (fun zw zk => XS.bipush X5.here hx rfl (hb hby d1_16) zk) ?_
  show own_Go p e below G (T5.setTop (mkF m 18 #[.val (.long q0), .second, .val (.ref b1), .val (.int (4 : Int32))] [(.int (8 : Int32)), (.long q0), (.int (4 : Int32)), (.ref b1)]))
  refine own_st (fun zw zk => XS.iloadN X5.here hx rfl (hb hby d1_18) rfl zk) ?_
  refine own_st (fun zw zk => XS.imul X5.here hx rfl (hb hby d1_19) rfl zk) ?_
  refine own_st (fun zw zk => XS.lushr X5.here hx rfl (hb hby d1_20) rfl zk) ?_
  refine own_st (fun zw zk => XS.l2i X5.here hx rfl (hb hby d1_21) rfl zk) ?_
  refine own_st (fun zw zk => XS.i2b X5.here hx rfl (hb hby d1_22) rfl zk) ?_
  obtain ⟨T6, h6, X6, e6, W6, V6, st6⟩ := own_bst X5 hx hZ e5 Vb1_5 (j := (4 : Int32)) (4) (by decide) (by decide) (Nat.le_of_ble_eq_true rfl) (g := (mkF m 23 #[.val (.long q0), .second, .val (.ref b1), .val (.int (4 : Int32))] [(.int ((((q0.toUInt64 >>> ((32 : Int32) &&& 0x3f).toInt64.toUInt64).toInt64).toInt32).toInt8.toInt32)), (.int (4 : Int32)), (.ref b1)])) rfl rfl (hb hby d1_23)
  have Vb1_6 : own_L Z h6 b1 .byte ([(.int (((((q0.toUInt64 >>> ((0 : Int32) &&& 0x3f).toInt64.toUInt64).toInt64).toInt32).toInt8.toInt32).toInt8.toInt32)), (.int (((((q0.toUInt64 >>> ((8 : Int32) &&& 0x3f).toInt64.toUInt64).toInt64).toInt32).toInt8.toInt32).toInt8.toInt32)), (.int (((((q0.toUInt64 >>> ((16 : Int32) &&& 0x3f).toInt64.toUInt64).toInt64).toInt32).toInt8.toInt32).toInt8.toInt32)), (.int (((((q0.toUInt64 >>> ((24 : Int32) &&& 0x3f).toInt64.toUInt64).toInt64).toInt32).toInt8.toInt32).toInt8.toInt32)), (.int (((((q0.toUInt64 >>> ((32 : Int32) &&& 0x3f).toInt64.toUInt64).toInt64).toInt32).toInt8.toInt32).toInt8.toInt32)), (.int (0 : Int32)), (.int (0 : Int32)), (.int (0 : Int32))]) := V6
  have N6 := Fr.snoc X6 N5 G1
  refine own_st (fun zw zk => st6 zw zk) ?_
  have Z6 : n0 ≤ h6.size := Nat.le_trans Z5 (Keep.of_wr W6).1
  have Kp6 := Kp5.wr W6 (Or.inr sz1)
  refine own_st (fun zw zk => XS.iinc X6.here hx rfl (hb hby d1_24) rfl rfl zk) ?_
  show own_Go p e below G (T6.setTop (mkF m 27 #[.val (.long q0), .second, .val (.ref b1), .val (.int (5 : Int32))] []))
  refine own_st (fun zw zk => XS.goto X6.here hx rfl (pc0 := 27) (pc' := 7) rfl (hb hby d1_27) (by decide) (by decide) zk) ?_
  show own_Go p e below G (T6.setTop (mkF m 7 #[.val (.long q0), .second, .val (.ref b1), .val (.int (5 : Int32))] []))
  refine own_st (fun zw zk => XS.iloadN X6.here hx rfl (hb hby d1_7) rfl zk) ?_
  refine own_st (fun zw zk => XS.aloadN X6.here hx rfl (hb hby d1_8) rfl rfl zk) ?_
  refine own_st (fun zw zk => own_len X6 hx hZ e6 Vb1_6 (z := (8 : Int32)) (rfl) (g := (mkF m 9 #[.val (.long q0), .second, .val (.ref b1), .val (.int (5 : Int32))] [(.ref b1), (.int (5 : Int32))])) rfl rfl (hb hby d1_9) _ zk) ?_
  refine own_st (fun zw zk => XS.icmpNo X6.here hx rfl (hb hby d1_10) rfl (tlt (by decide : (5 : Int32) < (8 : Int32))).2.1 zk) ?_
  refine own_st (fun zw zk => XS.aloadN X6.here hx rfl (hb hby d1_13) rfl rfl zk) ?_
  refine own_st (fun zw zk => XS.iloadN X6.here hx rfl (hb hby d1_14) rfl zk) ?_
  refine own_st (fun zw zk => XS.lloadN X6.here hx rfl (hb hby d1_15) rfl zk) ?_
  refine own_st (fun zw zk => XS.bipush X6.here hx rfl (hb hby d1_16) zk) ?_
  show own_Go p e below G (T6.setTop (mkF m 18 #[.val (.long q0), .second, .val (.ref b1), .val (.int (5 : Int32))] [(.int (8 : Int32)), (.long q0), (.int (5 : Int32)), (.ref b1)]))
  refine own_st (fun zw zk => XS.iloadN X6.here hx rfl (hb hby d1_18) rfl zk) ?_
  refine own_st (fun zw zk => XS.imul X6.here hx rfl (hb hby d1_19) rfl zk) ?_
  refine own_st (fun zw zk => XS.lushr X6.here hx rfl (hb hby d1_20) rfl zk) ?_
  refine own_st (fun zw zk => XS.l2i X6.here hx rfl (hb hby d1_21) rfl zk) ?_
  refine own_st (fun zw zk => XS.i2b X6.here hx rfl (hb hby d1_22) rfl zk) ?_
  obtain ⟨T7, h7, X7, e7, W7, V7, st7⟩ := own_bst X6 hx hZ e6 Vb1_6 (j := (5 : Int32)) (5) (by decide) (by decide) (Nat.le_of_ble_eq_true rfl) (g := (mkF m 23 #[.val (.long q0), .second, .val (.ref b1), .val (.int (5 : Int32))] [(.int ((((q0.toUInt64 >>> ((40 : Int32) &&& 0x3f).toInt64.toUInt64).toInt64).toInt32).toInt8.toInt32)), (.int (5 : Int32)), (.ref b1)])) rfl rfl (hb hby d1_23)
  have Vb1_7 : own_L Z h7 b1 .byte ([(.int (((((q0.toUInt64 >>> ((0 : Int32) &&& 0x3f).toInt64.toUInt64).toInt64).toInt32).toInt8.toInt32).toInt8.toInt32)), (.int (((((q0.toUInt64 >>> ((8 : Int32) &&& 0x3f).toInt64.toUInt64).toInt64).toInt32).toInt8.toInt32).toInt8.toInt32)), (.int (((((q0.toUInt64 >>> ((16 : Int32) &&& 0x3f).toInt64.toUInt64).toInt64).toInt32).toInt8.toInt32).toInt8.toInt32)), (.int (((((q0.toUInt64 >>> ((24 : Int32) &&& 0x3f).toInt64.toUInt64).toInt64).toInt32).toInt8.toInt32).toInt8.toInt32)), (.int (((((q0.toUInt64 >>> ((32 : Int32) &&& 0x3f).toInt64.toUInt64).toInt64).toInt32).toInt8.toInt32).toInt8.toInt32)), (.int (((((q0.toUInt64 >>> ((40 : Int32) &&& 0x3f).toInt64.toUInt64).toInt64).toInt32).toInt8.toInt32).toInt8.toInt32)), (.int (0 : Int32)), (.int (0 : Int32))]) := V7
  have N7 := Fr.snoc X7 N6 G1
  refine own_st (fun zw zk => st7 zw zk) ?_
  have Z7 : n0 ≤ h7.size := Nat.le_trans Z6 (Keep.of_wr W7).1
  have Kp7 := Kp6.wr W7 (Or.inr sz1)
  refine own_st (fun zw zk => XS.iinc X7.here hx rfl (hb hby d1_24) rfl rfl zk) ?_
  show own_Go p e below G (T7.setTop (mkF m 27 #[.val (.long q0), .second, .val (.ref b1), .val (.int (6 : Int32))] []))
  refine own_st (fun zw zk => XS.goto X7.here hx rfl (pc0 := 27) (pc' := 7) rfl (hb hby d1_27) (by decide) (by decide) zk) ?_
  show own_Go p e below G (T7.setTop (mkF m 7 #[.val (.long q0), .second, .val (.ref b1), .val (.int (6 : Int32))] []))
  refine own_st (fun zw zk => XS.iloadN X7.here hx rfl (hb hby d1_7) rfl zk) ?_
  refine own_st (fun zw zk => XS.aloadN X7.here hx rfl (hb hby d1_8) rfl rfl zk) ?_
  refine own_st (fun zw zk => own_len X7 hx hZ e7 Vb1_7 (z := (8 : Int32)) (rfl) (g := (mkF m 9 #[.val (.long q0), .second, .val (.ref b1), .val (.int (6 : Int32))] [(.ref b1), (.int (6 : Int32))])) rfl rfl (hb hby d1_9) _ zk) ?_
  refine own_st (fun zw zk => XS.icmpNo X7.here hx rfl (hb hby d1_10) rfl (tlt (by decide : (6 : Int32) < (8 : Int32))).2.1 zk) ?_
  refine own_st (fun zw zk => XS.aloadN X7.here hx rfl (hb hby d1_13) rfl rfl zk) ?_
  refine own_st (fun zw zk => XS.iloadN X7.here hx rfl (hb hby d1_14) rfl zk) ?_
  refine own_st (fun zw zk => XS.lloadN X7.here hx rfl (hb hby d1_15) rfl zk) ?_
  refine own_st (fun zw zk => XS.bipush X7.here hx rfl (hb hby d1_16) zk) ?_
  show own_Go p e below G (T7.setTop (mkF m 18 #[.val (.long q0), .second, .val (.ref b1), .val (.int (6 : Int32))] [(.int (8 : Int32)), (.long q0), (.int (6 : Int32)), (.ref b1)]))
  refine own_st (fun zw zk => XS.iloadN X7.here hx rfl (hb hby d1_18) rfl zk) ?_
  refine own_st (fun zw zk => XS.imul X7.here hx rfl (hb hby d1_19) rfl zk) ?_
  refine own_st (fun zw zk => XS.lushr X7.here hx rfl (hb hby d1_20) rfl zk) ?_
  refine own_st (fun zw zk => XS.l2i X7.here hx rfl (hb hby d1_21) rfl zk) ?_
  refine own_st (fun zw zk => XS.i2b X7.here hx rfl (hb hby d1_22) rfl zk) ?_
  obtain ⟨T8, h8, X8, e8, W8, V8, st8⟩ := own_bst X7 hx hZ e7 Vb1_7 (j := (6 : Int32)) (6) (by decide) (by decide) (Nat.le_of_ble_eq_true rfl) (g := (mkF m 23 #[.val (.long q0), .second, .val (.ref b1), .val (.int (6 : Int32))] [(.int ((((q0.toUInt64 >>> ((48 : Int32) &&& 0x3f).toInt64.toUInt64).toInt64).toInt32).toInt8.toInt32)), (.int (6 : Int32)), (.ref b1)])) rfl rfl (hb hby d1_23)
  have Vb1_8 : own_L Z h8 b1 .byte ([(.int (((((q0.toUInt64 >>> ((0 : Int32) &&& 0x3f).toInt64.toUInt64).toInt64).toInt32).toInt8.toInt32).toInt8.toInt32)), (.int (((((q0.toUInt64 >>> ((8 : Int32) &&& 0x3f).toInt64.toUInt64).toInt64).toInt32).toInt8.toInt32).toInt8.toInt32)), (.int (((((q0.toUInt64 >>> ((16 : Int32) &&& 0x3f).toInt64.toUInt64).toInt64).toInt32).toInt8.toInt32).toInt8.toInt32)), (.int (((((q0.toUInt64 >>> ((24 : Int32) &&& 0x3f).toInt64.toUInt64).toInt64).toInt32).toInt8.toInt32).toInt8.toInt32)), (.int (((((q0.toUInt64 >>> ((32 : Int32) &&& 0x3f).toInt64.toUInt64).toInt64).toInt32).toInt8.toInt32).toInt8.toInt32)), (.int (((((q0.toUInt64 >>> ((40 : Int32) &&& 0x3f).toInt64.toUInt64).toInt64).toInt32).toInt8.toInt32).toInt8.toInt32)), (.int (((((q0.toUInt64 >>> ((48 : Int32) &&& 0x3f).toInt64.toUInt64).toInt64).toInt32).toInt8.toInt32).toInt8.toInt32)), (.int (0 : Int32))]) := V8
  have N8 := Fr.snoc X8 N7 G1
  refine own_st (fun zw zk => st8 zw zk) ?_
  have Z8 : n0 ≤ h8.size := Nat.le_trans Z7 (Keep.of_wr W8).1
  have Kp8 := Kp7.wr W8 (Or.inr sz1)
  refine own_st (fun zw zk => XS.iinc X8.here hx rfl (hb hby d1_24) rfl rfl zk) ?_
  show own_Go p e below G (T8.setTop (mkF m 27 #[.val (.long q0), .second, .val (.ref b1), .val (.int (7 : Int32))] []))
  refine own_st (fun zw zk => XS.goto X8.here hx rfl (pc0 := 27) (pc' := 7) rfl (hb hby d1_27) (by decide) (by decide) zk) ?_
  show own_Go p e below G (T8.setTop (mkF m 7 #[.val (.long q0), .second, .val (.ref b1), .val (.int (7 : Int32))] []))
  refine own_st (fun zw zk => XS.iloadN X8.here hx rfl (hb hby d1_7) rfl zk) ?_
  refine own_st (fun zw zk => XS.aloadN X8.here hx rfl (hb hby d1_8) rfl rfl zk) ?_
  refine own_st (fun zw zk => own_len X8 hx hZ e8 Vb1_8 (z := (8 : Int32)) (rfl) (g := (mkF m 9 #[.val (.long q0), .second, .val (.ref b1), .val (.int (7 : Int32))] [(.ref b1), (.int (7 : Int32))])) rfl rfl (hb hby d1_9) _ zk) ?_
  refine own_st (fun zw zk => XS.icmpNo X8.here hx rfl (hb hby d1_10) rfl (tlt (by decide : (7 : Int32) < (8 : Int32))).2.1 zk) ?_
  refine own_st (fun zw zk => XS.aloadN X8.here hx rfl (hb hby d1_13) rfl rfl zk) ?_
  refine own_st (fun zw zk => XS.iloadN X8.here hx rfl (hb hby d1_14) rfl zk) ?_
  refine own_st (fun zw zk => XS.lloadN X8.here hx rfl (hb hby d1_15) rfl zk) ?_
  refine own_st (fun zw zk => XS.bipush X8.here hx rfl (hb hby d1_16) zk) ?_
  show own_Go p e below G (T8.setTop (mkF m 18 #[.val (.long q0), .second, .val (.ref b1), .val (.int (7 : Int32))] [(.int (8 : Int32)), (.long q0), (.int (7 : Int32)), (.ref b1)]))
  refine own_st (fun zw zk => XS.iloadN X8.here hx rfl (hb hby d1_18) rfl zk) ?_
  refine own_st (fun zw zk => XS.imul X8.here hx rfl (hb hby d1_19) rfl zk) ?_
  refine own_st (fun zw zk => XS.lushr X8.here hx rfl (hb hby d1_20) rfl zk) ?_
  refine own_st (fun zw zk => XS.l2i X8.here hx rfl (hb hby d1_21) rfl zk) ?_
  refine own_st (fun zw zk => XS.i2b X8.here hx rfl (hb hby d1_22) rfl zk) ?_
  obtain ⟨T9, h9, X9, e9, W9, V9, st9⟩ := own_bst X8 hx hZ e8 Vb1_8 (j := (7 : Int32)) (7) (by decide) (by decide) (Nat.le_of_ble_eq_true rfl) (g := (mkF m 23 #[.val (.long q0), .second, .val (.ref b1), .val (.int (7 : Int32))] [(.int ((((q0.toUInt64 >>> ((56 : Int32) &&& 0x3f).toInt64.toUInt64).toInt64).toInt32).toInt8.toInt32)), (.int (7 : Int32)), (.ref b1)])) rfl rfl (hb hby d1_23)
  have Vb1_9 : own_L Z h9 b1 .byte ([(.int (((((q0.toUInt64 >>> ((0 : Int32) &&& 0x3f).toInt64.toUInt64).toInt64).toInt32).toInt8.toInt32).toInt8.toInt32)), (.int (((((q0.toUInt64 >>> ((8 : Int32) &&& 0x3f).toInt64.toUInt64).toInt64).toInt32).toInt8.toInt32).toInt8.toInt32)), (.int (((((q0.toUInt64 >>> ((16 : Int32) &&& 0x3f).toInt64.toUInt64).toInt64).toInt32).toInt8.toInt32).toInt8.toInt32)), (.int (((((q0.toUInt64 >>> ((24 : Int32) &&& 0x3f).toInt64.toUInt64).toInt64).toInt32).toInt8.toInt32).toInt8.toInt32)), (.int (((((q0.toUInt64 >>> ((32 : Int32) &&& 0x3f).toInt64.toUInt64).toInt64).toInt32).toInt8.toInt32).toInt8.toInt32)), (.int (((((q0.toUInt64 >>> ((40 : Int32) &&& 0x3f).toInt64.toUInt64).toInt64).toInt32).toInt8.toInt32).toInt8.toInt32)), (.int (((((q0.toUInt64 >>> ((48 : Int32) &&& 0x3f).toInt64.toUInt64).toInt64).toInt32).toInt8.toInt32).toInt8.toInt32)), (.int (((((q0.toUInt64 >>> ((56 : Int32) &&& 0x3f).toInt64.toUInt64).toInt64).toInt32).toInt8.toInt32).toInt8.toInt32))]) := V9
  have N9 := Fr.snoc X9 N8 G1
  refine own_st (fun zw zk => st9 zw zk) ?_
  have Z9 : n0 ≤ h9.size := Nat.le_trans Z8 (Keep.of_wr W9).1
  have Kp9 := Kp8.wr W9 (Or.inr sz1)
  refine own_st (fun zw zk => XS.iinc X9.here hx rfl (hb hby d1_24) rfl rfl zk) ?_
  show own_Go p e below G (T9.setTop (mkF m 27 #[.val (.long q0), .second, .val (.ref b1), .val (.int (8 : Int32))] []))
  refine own_st (fun zw zk => XS.goto X9.here hx rfl (pc0 := 27) (pc' := 7) rfl (hb hby d1_27) (by decide) (by decide) zk) ?_
  show own_Go p e below G (T9.setTop (mkF m 7 #[.val (.long q0), .second, .val (.ref b1), .val (.int (8 : Int32))] []))
  refine own_st (fun zw zk => XS.iloadN X9.here hx rfl (hb hby d1_7) rfl zk) ?_
  refine own_st (fun zw zk => XS.aloadN X9.here hx rfl (hb hby d1_8) rfl rfl zk) ?_
  refine own_st (fun zw zk => own_len X9 hx hZ e9 Vb1_9 (z := (8 : Int32)) (rfl) (g := (mkF m 9 #[.val (.long q0), .second, .val (.ref b1), .val (.int (8 : Int32))] [(.ref b1), (.int (8 : Int32))])) rfl rfl (hb hby d1_9) _ zk) ?_
  refine own_st (fun zw zk => XS.icmpYes X9.here hx rfl (pc0 := 10) (pc' := 30) rfl (hb hby d1_10) rfl (flt (by decide : ¬ ((8 : Int32) < (8 : Int32)))).2.1 (by decide) (by decide) zk) ?_
  refine own_st (fun zw zk => XS.aloadN X9.here hx rfl (hb hby d1_30) rfl rfl zk) ?_
  subst hG
  obtain ⟨fs, hr, hrun, hended, hW, hsame⟩ := X9.leave (v := some (.ref b1)) (fun h => by rw [Bd.returns] at h; cases h)
  refine ⟨_, X9.areturnOut hx rfl Bd.returns rfl (hb hby d1_31) hr, _, hrun, hended, _, _, rfl, ?_, ⟨_, rfl⟩, hW, hsame.mono (by decide) (by decide)⟩
  show Q1 Z q0 h0 n0 _ T9.heap _
  rw [e9]
  exact ⟨b1, rfl, N9, sz1, Kp9, Vb1_9⟩
theorem pd_0 : parseMethodDescriptor "(J)[B" = some ⟨[.long], some (.array .byte)⟩ := by decide +kernel
theorem pn_1 : plainName "com/example/out_filter/outfilter/KeysLittleEndianPinLaw" = true := by first | (simp [plainName, overriddenIn]; done) | decide +kernel
theorem ef_rm0 (m : MethodId) (q0 : Int64) : entryFrame m #[(.long q0)] maxLocals = mkF m 0 #[.val (.long q0), .second, .unset, .unset, .unset] [] := by first | rfl | (simp [entryFrame, mkF, argsToLocals, Value.category, maxLocals]; done)
def Q0 (Z : State) (q0 : Int64) (h0 : Heap) (n0 : Nat) (rv : Option Value) (hq : Heap) (Lq : List Loc) : Prop := rv = some (.int 1) ∧ Fr n0 Lq
set_option maxRecDepth 65536 in
set_option maxHeartbeats 40000000 in
theorem rm0 (l : Launch) (Z : State) (a0 : Array Value) (hw : ∀ d ∈ tables_1, d.before a0 Z = true) (ws : List Jvm.Cond) (q0 : Int64) (h0 : Heap) (n0 : Nat) (Z0 : n0 ≤ h0.size) :
    MetFree l x (head1 (Jvm.Cond.code x code maxLocals ret :: ws) room_1) (fun za U => za = #[(.long q0)] ∧ Z.Warmed39 U.vm ∧ U.heap = h0) (fun _ _ _ _ _ => True) (fun _ U o U' => ∃ rv Lq, o = .returned rv ∧ Q0 Z q0 h0 n0 rv U'.heap Lq ∧ FrameEnd U o U' Lq room_1.cells room_1.slots) := by
  refine MetFree.of_bodySF (plainFor_of_name pn_1) hisR ?_
  intro p e s m args below meth c s₁ Bd hml0 hP hK
  obtain ⟨rfl, hZ, hh⟩ := hP
  have hx := Bd.exec
  have hby := Bd.bytes
  have hml : c.maxLocals = 5 := hml0
  have hown : s.vm.findClass "com/example/out_filter/outfilter/KeysLittleEndianPinLaw" = some m.cls := findClass_of_methodNamed Bd.named
  have hnm := (name_of_methodNamed Bd.named Bd.method).1
  have X0 : Stand p l e room_1 s m #[(.long q0)] below meth c s₁ [] 0 0 := Stand.of_body Bd
  have e0 : s₁.heap = h0 := by rw [← hh, Bd.state]; rfl
  have N0 := Fr.nil n0
  refine own_out (own_nm fun G hG => own_st (fun zt zk => castTop (ef_rm0 m q0) zk) ?_)
  show own_Go p e below G (s₁.setTop (mkF m 0 #[.val (.long q0), .second, .unset, .unset, .unset] []))
  refine own_st (fun zw zk => XS.lloadN X0.here hx rfl (hb hby at_0) rfl zk) ?_
  obtain ⟨_, _, ⟨T10, L10, k10, n10⟩, -, X10, ⟨Lc10, hQ10, l10, y10, z10⟩, st10⟩ := Jvm.LawKit.callS X0 hx (y := (⟨"com/example/out_filter/outfilter/Keys", "littleEndian", "(J)[B"⟩ : MethodName)) hown (mvT hZ (hw _ (List.mem_of_getElem? (i := 0) rfl))) (mvT hZ (hw _ (List.mem_of_getElem? (i := 1) rfl))) (mvT hZ (hw _ (List.mem_of_getElem? (i := 2) rfl))) (mvT hZ (hw _ (List.mem_of_getElem? (i := 3) rfl))) (by decide) (backOf (W := 0) (rm1 l Z a0 hw [] q0 h0 n0 Z0) hZ (hw _ (List.mem_of_getElem? (i := 3) rfl)) (hw _ (List.mem_of_getElem? (i := 2) rfl)) (by decide) (by decide)) (g := (mkF m 1 #[.val (.long q0), .second, .unset, .unset, .unset] [(.long q0)])) rfl (by rw [hml]; rfl) (argsL := [(.long q0)]) (rest := []) (lenOf pd_0 rfl) rfl (by show 2 * 0 + _ ≤ _; exact Nat.le_of_eq rfl) (hb hby at_1) (fun _ _ => ⟨rfl, e0, (by decide : 0 + 1 ≤ _), (by decide : 0 + 8 ≤ _)⟩)
  dsimp only [Pt.U, Pt.locs, Pt.cells, Pt.slots] at X10 l10 y10 z10 st10 hQ10
  subst l10 y10 z10
  obtain ⟨b10, rfl, N10q, sz10, K10, R10_0⟩ := hQ10
  have G10 : n0 ≤ b10 := Nat.le_trans Z0 sz10
  have Z10 : n0 ≤ T10.heap.size := Nat.le_trans Z0 K10.1
  have N10 := Fr.app N0 N10q
  refine own_st (fun zw zk => st10 zw zk) ?_
  refine own_st (fun zw zk => XS.astoreN X10.here hx rfl (hb hby at_4) rfl rfl rfl zk) ?_
  show own_Go p e below G (T10.setTop (mkF m 5 #[.val (.long q0), .second, .val (.ref b10), .unset, .unset] []))
  refine own_st (fun zw zk => XS.aloadN X10.here hx rfl (hb hby at_5) rfl rfl zk) ?_
  refine own_st (fun zw zk => XS.ifnullNo X10.here hx rfl (hb hby at_6) rfl zk) ?_
  refine own_st (fun zw zk => XS.aloadN X10.here hx rfl (hb hby at_9) rfl rfl zk) ?_
  refine own_st (fun zw zk => own_len X10 hx hZ rfl R10_0 (z := (8 : Int32)) (rfl) (g := (mkF m 10 #[.val (.long q0), .second, .val (.ref b10), .unset, .unset] [(.ref b10)])) rfl rfl (hb hby at_10) _ zk) ?_
  refine own_st (fun zw zk => XS.bipush X10.here hx rfl (hb hby at_11) zk) ?_
  refine own_st (fun zw zk => XS.icmpYes X10.here hx rfl (pc0 := 13) (pc' := 18) rfl (hb hby at_13) rfl (teq (by decide : (8 : Int32) = (8 : Int32))).1 (by decide) (by decide) zk) ?_
  refine own_st (fun zw zk => XS.aloadN X10.here hx rfl (hb hby at_18) rfl rfl zk) ?_
  refine own_st (fun zw zk => XS.iconst X10.here hx rfl (hb hby at_19) zk) ?_
  show own_Go p e below G (T10.setTop (mkF m 20 #[.val (.long q0), .second, .val (.ref b10), .unset, .unset] [(.int (0 : Int32)), (.ref b10)]))
  refine own_st (fun zw zk => own_bld X10 hx hZ rfl R10_0 (j := (0 : Int32)) (v := (.int (((((q0.toUInt64 >>> ((0 : Int32) &&& 0x3f).toInt64.toUInt64).toInt64).toInt32).toInt8.toInt32).toInt8.toInt32))) (i := 0) (by decide) (by decide) rfl (g := (mkF m 20 #[.val (.long q0), .second, .val (.ref b10), .unset, .unset] [(.int (0 : Int32)), (.ref b10)])) rfl rfl (hb hby at_20) _ zk) ?_
  refine own_st (fun zw zk => XS.i2l X10.here hx rfl (hb hby at_21) rfl zk) ?_
  refine own_st (fun zw zk => X10.ldc2Long hx hown (mvT hZ (hw _ (List.mem_of_getElem? (i := 5) rfl))) (g := (mkF m 22 #[.val (.long q0), .second, .val (.ref b10), .unset, .unset] [(.long ((((((q0.toUInt64 >>> ((0 : Int32) &&& 0x3f).toInt64.toUInt64).toInt64).toInt32).toInt8.toInt32).toInt8.toInt32).toInt64))])) rfl (hb hby at_22) _ zk) ?_
  refine own_st (fun zw zk => XS.land X10.here hx rfl (hb hby at_25) rfl zk) ?_
  refine own_st (fun zw zk => XS.aloadN X10.here hx rfl (hb hby at_26) rfl rfl zk) ?_
  refine own_st (fun zw zk => XS.iconst X10.here hx rfl (hb hby at_27) zk) ?_
  refine own_st (fun zw zk => own_bld X10 hx hZ rfl R10_0 (j := (1 : Int32)) (v := (.int (((((q0.toUInt64 >>> ((8 : Int32) &&& 0x3f).toInt64.toUInt64).toInt64).toInt32).toInt8.toInt32).toInt8.toInt32))) (i := 1) (by decide) (by decide) rfl (g := (mkF m 28 #[.val (.long q0), .second, .val (.ref b10), .unset, .unset] [(.int (1 : Int32)), (.ref b10), (.long (((((((q0.toUInt64 >>> ((0 : Int32) &&& 0x3f).toInt64.toUInt64).toInt64).toInt32).toInt8.toInt32).toInt8.toInt32).toInt64) &&& (255 : Int64)))])) rfl rfl (hb hby at_28) _ zk) ?_
  refine own_st (fun zw zk => XS.i2l X10.here hx rfl (hb hby at_29) rfl zk) ?_
  show own_Go p e below G (T10.setTop (mkF m 30 #[.val (.long q0), .second, .val (.ref b10), .unset, .unset] [(.long ((((((q0.toUInt64 >>> ((8 : Int32) &&& 0x3f).toInt64.toUInt64).toInt64).toInt32).toInt8.toInt32).toInt8.toInt32).toInt64)), (.long (((((((q0.toUInt64 >>> ((0 : Int32) &&& 0x3f).toInt64.toUInt64).toInt64).toInt32).toInt8.toInt32).toInt8.toInt32).toInt64) &&& (255 : Int64)))]))
  refine own_st (fun zw zk => X10.ldc2Long hx hown (mvT hZ (hw _ (List.mem_of_getElem? (i := 5) rfl))) (g := (mkF m 30 #[.val (.long q0), .second, .val (.ref b10), .unset, .unset] [(.long ((((((q0.toUInt64 >>> ((8 : Int32) &&& 0x3f).toInt64.toUInt64).toInt64).toInt32).toInt8.toInt32).toInt8.toInt32).toInt64)), (.long (((((((q0.toUInt64 >>> ((0 : Int32) &&& 0x3f).toInt64.toUInt64).toInt64).toInt32).toInt8.toInt32).toInt8.toInt32).toInt64) &&& (255 : Int64)))])) rfl (hb hby at_30) _ zk) ?_
  refine own_st (fun zw zk => XS.land X10.here hx rfl (hb hby at_33) rfl zk) ?_
  refine own_st (fun zw zk => XS.bipush X10.here hx rfl (hb hby at_34) zk) ?_
  refine own_st (fun zw zk => XS.lshl X10.here hx rfl (hb hby at_36) rfl zk) ?_
  refine own_st (fun zw zk => XS.lor X10.here hx rfl (hb hby at_37) rfl zk) ?_
  refine own_st (fun zw zk => XS.aloadN X10.here hx rfl (hb hby at_38) rfl rfl zk) ?_
  refine own_st (fun zw zk => XS.iconst X10.here hx rfl (hb hby at_39) zk) ?_
  refine own_st (fun zw zk => own_bld X10 hx hZ rfl R10_0 (j := (2 : Int32)) (v := (.int (((((q0.toUInt64 >>> ((16 : Int32) &&& 0x3f).toInt64.toUInt64).toInt64).toInt32).toInt8.toInt32).toInt8.toInt32))) (i := 2) (by decide) (by decide) rfl (g := (mkF m 40 #[.val (.long q0), .second, .val (.ref b10), .unset, .unset] [(.int (2 : Int32)), (.ref b10), (.long ((((((((q0.toUInt64 >>> ((0 : Int32) &&& 0x3f).toInt64.toUInt64).toInt64).toInt32).toInt8.toInt32).toInt8.toInt32).toInt64) &&& (255 : Int64)) ||| ((((((((q0.toUInt64 >>> ((8 : Int32) &&& 0x3f).toInt64.toUInt64).toInt64).toInt32).toInt8.toInt32).toInt8.toInt32).toInt64) &&& (255 : Int64)) <<< ((8 : Int32) &&& 0x3f).toInt64)))])) rfl rfl (hb hby at_40) _ zk) ?_
  show own_Go p e below G (T10.setTop (mkF m 41 #[.val (.long q0), .second, .val (.ref b10), .unset, .unset] [(.int (((((q0.toUInt64 >>> ((16 : Int32) &&& 0x3f).toInt64.toUInt64).toInt64).toInt32).toInt8.toInt32).toInt8.toInt32)), (.long ((((((((q0.toUInt64 >>> ((0 : Int32) &&& 0x3f).toInt64.toUInt64).toInt64).toInt32).toInt8.toInt32).toInt8.toInt32).toInt64) &&& (255 : Int64)) ||| ((((((((q0.toUInt64 >>> ((8 : Int32) &&& 0x3f).toInt64.toUInt64).toInt64).toInt32).toInt8.toInt32).toInt8.toInt32).toInt64) &&& (255 : Int64)) <<< ((8 : Int32) &&& 0x3f).toInt64)))]))
  refine own_st (fun zw zk => XS.i2l X10.here hx rfl (hb hby at_41) rfl zk) ?_
  refine own_st (fun zw zk => X10.ldc2Long hx hown (mvT hZ (hw _ (List.mem_of_getElem? (i := 5) rfl))) (g := (mkF m 42 #[.val (.long q0), .second, .val (.ref b10), .unset, .unset] [(.long ((((((q0.toUInt64 >>> ((16 : Int32) &&& 0x3f).toInt64.toUInt64).toInt64).toInt32).toInt8.toInt32).toInt8.toInt32).toInt64)), (.long ((((((((q0.toUInt64 >>> ((0 : Int32) &&& 0x3f).toInt64.toUInt64).toInt64).toInt32).toInt8.toInt32).toInt8.toInt32).toInt64) &&& (255 : Int64)) ||| ((((((((q0.toUInt64 >>> ((8 : Int32) &&& 0x3f).toInt64.toUInt64).toInt64).toInt32).toInt8.toInt32).toInt8.toInt32).toInt64) &&& (255 : Int64)) <<< ((8 : Int32) &&& 0x3f).toInt64)))])) rfl (hb hby at_42) _ zk) ?_
  refine own_st (fun zw zk => XS.land X10.here hx rfl (hb hby at_45) rfl zk) ?_
  refine own_st (fun zw zk => XS.bipush X10.here hx rfl (hb hby at_46) zk) ?_
  refine own_st (fun zw zk => XS.lshl X10.here hx rfl (hb hby at_48) rfl zk) ?_
  refine own_st (fun zw zk => XS.lor X10.here hx rfl (hb hby at_49) rfl zk) ?_
  refine own_st (fun zw zk => XS.aloadN X10.here hx rfl (hb hby at_50) rfl rfl zk) ?_
  refine own_st (fun zw zk => XS.iconst X10.here hx rfl (hb hby at_51) zk) ?_
  show own_Go p e below G (T10.setTop (mkF m 52 #[.val (.long q0), .second, .val (.ref b10), .unset, .unset] [(.int (3 : Int32)), (.ref b10), (.long (((((((((q0.toUInt64 >>> ((0 : Int32) &&& 0x3f).toInt64.toUInt64).toInt64).toInt32).toInt8.toInt32).toInt8.toInt32).toInt64) &&& (255 : Int64)) ||| ((((((((q0.toUInt64 >>> ((8 : Int32) &&& 0x3f).toInt64.toUInt64).toInt64).toInt32).toInt8.toInt32).toInt8.toInt32).toInt64) &&& (255 : Int64)) <<< ((8 : Int32) &&& 0x3f).toInt64)) ||| ((((((((q0.toUInt64 >>> ((16 : Int32) &&& 0x3f).toInt64.toUInt64).toInt64).toInt32).toInt8.toInt32).toInt8.toInt32).toInt64) &&& (255 : Int64)) <<< ((16 : Int32) &&& 0x3f).toInt64)))]))
  refine own_st (fun zw zk => own_bld X10 hx hZ rfl R10_0 (j := (3 : Int32)) (v := (.int (((((q0.toUInt64 >>> ((24 : Int32) &&& 0x3f).toInt64.toUInt64).toInt64).toInt32).toInt8.toInt32).toInt8.toInt32))) (i := 3) (by decide) (by decide) rfl (g := (mkF m 52 #[.val (.long q0), .second, .val (.ref b10), .unset, .unset] [(.int (3 : Int32)), (.ref b10), (.long (((((((((q0.toUInt64 >>> ((0 : Int32) &&& 0x3f).toInt64.toUInt64).toInt64).toInt32).toInt8.toInt32).toInt8.toInt32).toInt64) &&& (255 : Int64)) ||| ((((((((q0.toUInt64 >>> ((8 : Int32) &&& 0x3f).toInt64.toUInt64).toInt64).toInt32).toInt8.toInt32).toInt8.toInt32).toInt64) &&& (255 : Int64)) <<< ((8 : Int32) &&& 0x3f).toInt64)) ||| ((((((((q0.toUInt64 >>> ((16 : Int32) &&& 0x3f).toInt64.toUInt64).toInt64).toInt32).toInt8.toInt32).toInt8.toInt32).toInt64) &&& (255 : Int64)) <<< ((16 : Int32) &&& 0x3f).toInt64)))])) rfl rfl (hb hby at_52) _ zk) ?_
  refine own_st (fun zw zk => XS.i2l X10.here hx rfl (hb hby at_53) rfl zk) ?_
  refine own_st (fun zw zk => X10.ldc2Long hx hown (mvT hZ (hw _ (List.mem_of_getElem? (i := 5) rfl))) (g := (mkF m 54 #[.val (.long q0), .second, .val (.ref b10), .unset, .unset] [(.long ((((((q0.toUInt64 >>> ((24 : Int32) &&& 0x3f).toInt64.toUInt64).toInt64).toInt32).toInt8.toInt32).toInt8.toInt32).toInt64)), (.long (((((((((q0.toUInt64 >>> ((0 : Int32) &&& 0x3f).toInt64.toUInt64).toInt64).toInt32).toInt8.toInt32).toInt8.toInt32).toInt64) &&& (255 : Int64)) ||| ((((((((q0.toUInt64 >>> ((8 : Int32) &&& 0x3f).toInt64.toUInt64).toInt64).toInt32).toInt8.toInt32).toInt8.toInt32).toInt64) &&& (255 : Int64)) <<< ((8 : Int32) &&& 0x3f).toInt64)) ||| ((((((((q0.toUInt64 >>> ((16 : Int32) &&& 0x3f).toInt64.toUInt64).toInt64).toInt32).toInt8.toInt32).toInt8.toInt32).toInt64) &&& (255 : Int64)) <<< ((16 : Int32) &&& 0x3f).toInt64)))])) rfl (hb hby at_54) _ zk) ?_
  refine own_st (fun zw zk => XS.land X10.here hx rfl (hb hby at_57) rfl zk) ?_
  refine own_st (fun zw zk => XS.bipush X10.here hx rfl (hb hby at_58) zk) ?_
  refine own_st (fun zw zk => XS.lshl X10.here hx rfl (hb hby at_60) rfl zk) ?_
  refine own_st (fun zw zk => XS.lor X10.here hx rfl (hb hby at_61) rfl zk) ?_
  refine own_st (fun zw zk => XS.aloadN X10.here hx rfl (hb hby at_62) rfl rfl zk) ?_
  show own_Go p e below G (T10.setTop (mkF m 63 #[.val (.long q0), .second, .val (.ref b10), .unset, .unset] [(.ref b10), (.long ((((((((((q0.toUInt64 >>> ((0 : Int32) &&& 0x3f).toInt64.toUInt64).toInt64).toInt32).toInt8.toInt32).toInt8.toInt32).toInt64) &&& (255 : Int64)) ||| ((((((((q0.toUInt64 >>> ((8 : Int32) &&& 0x3f).toInt64.toUInt64).toInt64).toInt32).toInt8.toInt32).toInt8.toInt32).toInt64) &&& (255 : Int64)) <<< ((8 : Int32) &&& 0x3f).toInt64)) ||| ((((((((q0.toUInt64 >>> ((16 : Int32) &&& 0x3f).toInt64.toUInt64).toInt64).toInt32).toInt8.toInt32).toInt8.toInt32).toInt64) &&& (255 : Int64)) <<< ((16 : Int32) &&& 0x3f).toInt64)) ||| ((((((((q0.toUInt64 >>> ((24 : Int32) &&& 0x3f).toInt64.toUInt64).toInt64).toInt32).toInt8.toInt32).toInt8.toInt32).toInt64) &&& (255 : Int64)) <<< ((24 : Int32) &&& 0x3f).toInt64)))]))
  refine own_st (fun zw zk => XS.iconst X10.here hx rfl (hb hby at_63) zk) ?_
  refine own_st (fun zw zk => own_bld X10 hx hZ rfl R10_0 (j := (4 : Int32)) (v := (.int (((((q0.toUInt64 >>> ((32 : Int32) &&& 0x3f).toInt64.toUInt64).toInt64).toInt32).toInt8.toInt32).toInt8.toInt32))) (i := 4) (by decide) (by decide) rfl (g := (mkF m 64 #[.val (.long q0), .second, .val (.ref b10), .unset, .unset] [(.int (4 : Int32)), (.ref b10), (.long ((((((((((q0.toUInt64 >>> ((0 : Int32) &&& 0x3f).toInt64.toUInt64).toInt64).toInt32).toInt8.toInt32).toInt8.toInt32).toInt64) &&& (255 : Int64)) ||| ((((((((q0.toUInt64 >>> ((8 : Int32) &&& 0x3f).toInt64.toUInt64).toInt64).toInt32).toInt8.toInt32).toInt8.toInt32).toInt64) &&& (255 : Int64)) <<< ((8 : Int32) &&& 0x3f).toInt64)) ||| ((((((((q0.toUInt64 >>> ((16 : Int32) &&& 0x3f).toInt64.toUInt64).toInt64).toInt32).toInt8.toInt32).toInt8.toInt32).toInt64) &&& (255 : Int64)) <<< ((16 : Int32) &&& 0x3f).toInt64)) ||| ((((((((q0.toUInt64 >>> ((24 : Int32) &&& 0x3f).toInt64.toUInt64).toInt64).toInt32).toInt8.toInt32).toInt8.toInt32).toInt64) &&& (255 : Int64)) <<< ((24 : Int32) &&& 0x3f).toInt64)))])) rfl rfl (hb hby at_64) _ zk) ?_
  refine own_st (fun zw zk => XS.i2l X10.here hx rfl (hb hby at_65) rfl zk) ?_
  refine own_st (fun zw zk => X10.ldc2Long hx hown (mvT hZ (hw _ (List.mem_of_getElem? (i := 5) rfl))) (g := (mkF m 66 #[.val (.long q0), .second, .val (.ref b10), .unset, .unset] [(.long ((((((q0.toUInt64 >>> ((32 : Int32) &&& 0x3f).toInt64.toUInt64).toInt64).toInt32).toInt8.toInt32).toInt8.toInt32).toInt64)), (.long ((((((((((q0.toUInt64 >>> ((0 : Int32) &&& 0x3f).toInt64.toUInt64).toInt64).toInt32).toInt8.toInt32).toInt8.toInt32).toInt64) &&& (255 : Int64)) ||| ((((((((q0.toUInt64 >>> ((8 : Int32) &&& 0x3f).toInt64.toUInt64).toInt64).toInt32).toInt8.toInt32).toInt8.toInt32).toInt64) &&& (255 : Int64)) <<< ((8 : Int32) &&& 0x3f).toInt64)) ||| ((((((((q0.toUInt64 >>> ((16 : Int32) &&& 0x3f).toInt64.toUInt64).toInt64).toInt32).toInt8.toInt32).toInt8.toInt32).toInt64) &&& (255 : Int64)) <<< ((16 : Int32) &&& 0x3f).toInt64)) ||| ((((((((q0.toUInt64 >>> ((24 : Int32) &&& 0x3f).toInt64.toUInt64).toInt64).toInt32).toInt8.toInt32).toInt8.toInt32).toInt64) &&& (255 : Int64)) <<< ((24 : Int32) &&& 0x3f).toInt64)))])) rfl (hb hby at_66) _ zk) ?_
  refine own_st (fun zw zk => XS.land X10.here hx rfl (hb hby at_69) rfl zk) ?_
  refine own_st (fun zw zk => XS.bipush X10.here hx rfl (hb hby at_70) zk) ?_
  refine own_st (fun zw zk => XS.lshl X10.here hx rfl (hb hby at_72) rfl zk) ?_
  refine own_st (fun zw zk => XS.lor X10.here hx rfl (hb hby at_73) rfl zk) ?_
  show own_Go p e below G (T10.setTop (mkF m 74 #[.val (.long q0), .second, .val (.ref b10), .unset, .unset] [(.long (((((((((((q0.toUInt64 >>> ((0 : Int32) &&& 0x3f).toInt64.toUInt64).toInt64).toInt32).toInt8.toInt32).toInt8.toInt32).toInt64) &&& (255 : Int64)) ||| ((((((((q0.toUInt64 >>> ((8 : Int32) &&& 0x3f).toInt64.toUInt64).toInt64).toInt32).toInt8.toInt32).toInt8.toInt32).toInt64) &&& (255 : Int64)) <<< ((8 : Int32) &&& 0x3f).toInt64)) ||| ((((((((q0.toUInt64 >>> ((16 : Int32) &&& 0x3f).toInt64.toUInt64).toInt64).toInt32).toInt8.toInt32).toInt8.toInt32).toInt64) &&& (255 : Int64)) <<< ((16 : Int32) &&& 0x3f).toInt64)) ||| ((((((((q0.toUInt64 >>> ((24 : Int32) &&& 0x3f).toInt64.toUInt64).toInt64).toInt32).toInt8.toInt32).toInt8.toInt32).toInt64) &&& (255 : Int64)) <<< ((24 : Int32) &&& 0x3f).toInt64)) ||| ((((((((q0.toUInt64 >>> ((32 : Int32) &&& 0x3f).toInt64.toUInt64).toInt64).toInt32).toInt8.toInt32).toInt8.toInt32).toInt64) &&& (255 : Int64)) <<< ((32 : Int32) &&& 0x3f).toInt64)))]))
  refine own_st (fun zw zk => XS.aloadN X10.here hx rfl (hb hby at_74) rfl rfl zk) ?_
  refine own_st (fun zw zk => XS.iconst X10.here hx rfl (hb hby at_75) zk) ?_
  refine own_st (fun zw zk => own_bld X10 hx hZ rfl R10_0 (j := (5 : Int32)) (v := (.int (((((q0.toUInt64 >>> ((40 : Int32) &&& 0x3f).toInt64.toUInt64).toInt64).toInt32).toInt8.toInt32).toInt8.toInt32))) (i := 5) (by decide) (by decide) rfl (g := (mkF m 76 #[.val (.long q0), .second, .val (.ref b10), .unset, .unset] [(.int (5 : Int32)), (.ref b10), (.long (((((((((((q0.toUInt64 >>> ((0 : Int32) &&& 0x3f).toInt64.toUInt64).toInt64).toInt32).toInt8.toInt32).toInt8.toInt32).toInt64) &&& (255 : Int64)) ||| ((((((((q0.toUInt64 >>> ((8 : Int32) &&& 0x3f).toInt64.toUInt64).toInt64).toInt32).toInt8.toInt32).toInt8.toInt32).toInt64) &&& (255 : Int64)) <<< ((8 : Int32) &&& 0x3f).toInt64)) ||| ((((((((q0.toUInt64 >>> ((16 : Int32) &&& 0x3f).toInt64.toUInt64).toInt64).toInt32).toInt8.toInt32).toInt8.toInt32).toInt64) &&& (255 : Int64)) <<< ((16 : Int32) &&& 0x3f).toInt64)) ||| ((((((((q0.toUInt64 >>> ((24 : Int32) &&& 0x3f).toInt64.toUInt64).toInt64).toInt32).toInt8.toInt32).toInt8.toInt32).toInt64) &&& (255 : Int64)) <<< ((24 : Int32) &&& 0x3f).toInt64)) ||| ((((((((q0.toUInt64 >>> ((32 : Int32) &&& 0x3f).toInt64.toUInt64).toInt64).toInt32).toInt8.toInt32).toInt8.toInt32).toInt64) &&& (255 : Int64)) <<< ((32 : Int32) &&& 0x3f).toInt64)))])) rfl rfl (hb hby at_76) _ zk) ?_
  refine own_st (fun zw zk => XS.i2l X10.here hx rfl (hb hby at_77) rfl zk) ?_
  refine own_st (fun zw zk => X10.ldc2Long hx hown (mvT hZ (hw _ (List.mem_of_getElem? (i := 5) rfl))) (g := (mkF m 78 #[.val (.long q0), .second, .val (.ref b10), .unset, .unset] [(.long ((((((q0.toUInt64 >>> ((40 : Int32) &&& 0x3f).toInt64.toUInt64).toInt64).toInt32).toInt8.toInt32).toInt8.toInt32).toInt64)), (.long (((((((((((q0.toUInt64 >>> ((0 : Int32) &&& 0x3f).toInt64.toUInt64).toInt64).toInt32).toInt8.toInt32).toInt8.toInt32).toInt64) &&& (255 : Int64)) ||| ((((((((q0.toUInt64 >>> ((8 : Int32) &&& 0x3f).toInt64.toUInt64).toInt64).toInt32).toInt8.toInt32).toInt8.toInt32).toInt64) &&& (255 : Int64)) <<< ((8 : Int32) &&& 0x3f).toInt64)) ||| ((((((((q0.toUInt64 >>> ((16 : Int32) &&& 0x3f).toInt64.toUInt64).toInt64).toInt32).toInt8.toInt32).toInt8.toInt32).toInt64) &&& (255 : Int64)) <<< ((16 : Int32) &&& 0x3f).toInt64)) ||| ((((((((q0.toUInt64 >>> ((24 : Int32) &&& 0x3f).toInt64.toUInt64).toInt64).toInt32).toInt8.toInt32).toInt8.toInt32).toInt64) &&& (255 : Int64)) <<< ((24 : Int32) &&& 0x3f).toInt64)) ||| ((((((((q0.toUInt64 >>> ((32 : Int32) &&& 0x3f).toInt64.toUInt64).toInt64).toInt32).toInt8.toInt32).toInt8.toInt32).toInt64) &&& (255 : Int64)) <<< ((32 : Int32) &&& 0x3f).toInt64)))])) rfl (hb hby at_78) _ zk) ?_
  refine own_st (fun zw zk => XS.land X10.here hx rfl (hb hby at_81) rfl zk) ?_
  refine own_st (fun zw zk => XS.bipush X10.here hx rfl (hb hby at_82) zk) ?_
  refine own_st (fun zw zk => XS.lshl X10.here hx rfl (hb hby at_84) rfl zk) ?_
  show own_Go p e below G (T10.setTop (mkF m 85 #[.val (.long q0), .second, .val (.ref b10), .unset, .unset] [(.long ((((((((q0.toUInt64 >>> ((40 : Int32) &&& 0x3f).toInt64.toUInt64).toInt64).toInt32).toInt8.toInt32).toInt8.toInt32).toInt64) &&& (255 : Int64)) <<< ((40 : Int32) &&& 0x3f).toInt64)), (.long (((((((((((q0.toUInt64 >>> ((0 : Int32) &&& 0x3f).toInt64.toUInt64).toInt64).toInt32).toInt8.toInt32).toInt8.toInt32).toInt64) &&& (255 : Int64)) ||| ((((((((q0.toUInt64 >>> ((8 : Int32) &&& 0x3f).toInt64.toUInt64).toInt64).toInt32).toInt8.toInt32).toInt8.toInt32).toInt64) &&& (255 : Int64)) <<< ((8 : Int32) &&& 0x3f).toInt64)) ||| ((((((((q0.toUInt64 >>> ((16 : Int32) &&& 0x3f).toInt64.toUInt64).toInt64).toInt32).toInt8.toInt32).toInt8.toInt32).toInt64) &&& (255 : Int64)) <<< ((16 : Int32) &&& 0x3f).toInt64)) ||| ((((((((q0.toUInt64 >>> ((24 : Int32) &&& 0x3f).toInt64.toUInt64).toInt64).toInt32).toInt8.toInt32).toInt8.toInt32).toInt64) &&& (255 : Int64)) <<< ((24 : Int32) &&& 0x3f).toInt64)) ||| ((((((((q0.toUInt64 >>> ((32 : Int32) &&& 0x3f).toInt64.toUInt64).toInt64).toInt32).toInt8.toInt32).toInt8.toInt32).toInt64) &&& (255 : Int64)) <<< ((32 : Int32) &&& 0x3f).toInt64)))]))
  refine own_st (fun zw zk => XS.lor X10.here hx rfl (hb hby at_85) rfl zk) ?_
  refine own_st (fun zw zk => XS.aloadN X10.here hx rfl (hb hby at_86) rfl rfl zk) ?_
  refine own_st (fun zw zk => XS.bipush X10.here hx rfl (hb hby at_87) zk) ?_
  refine own_st (fun zw zk => own_bld X10 hx hZ rfl R10_0 (j := (6 : Int32)) (v := (.int (((((q0.toUInt64 >>> ((48 : Int32) &&& 0x3f).toInt64.toUInt64).toInt64).toInt32).toInt8.toInt32).toInt8.toInt32))) (i := 6) (by decide) (by decide) rfl (g := (mkF m 89 #[.val (.long q0), .second, .val (.ref b10), .unset, .unset] [(.int (6 : Int32)), (.ref b10), (.long ((((((((((((q0.toUInt64 >>> ((0 : Int32) &&& 0x3f).toInt64.toUInt64).toInt64).toInt32).toInt8.toInt32).toInt8.toInt32).toInt64) &&& (255 : Int64)) ||| ((((((((q0.toUInt64 >>> ((8 : Int32) &&& 0x3f).toInt64.toUInt64).toInt64).toInt32).toInt8.toInt32).toInt8.toInt32).toInt64) &&& (255 : Int64)) <<< ((8 : Int32) &&& 0x3f).toInt64)) ||| ((((((((q0.toUInt64 >>> ((16 : Int32) &&& 0x3f).toInt64.toUInt64).toInt64).toInt32).toInt8.toInt32).toInt8.toInt32).toInt64) &&& (255 : Int64)) <<< ((16 : Int32) &&& 0x3f).toInt64)) ||| ((((((((q0.toUInt64 >>> ((24 : Int32) &&& 0x3f).toInt64.toUInt64).toInt64).toInt32).toInt8.toInt32).toInt8.toInt32).toInt64) &&& (255 : Int64)) <<< ((24 : Int32) &&& 0x3f).toInt64)) ||| ((((((((q0.toUInt64 >>> ((32 : Int32) &&& 0x3f).toInt64.toUInt64).toInt64).toInt32).toInt8.toInt32).toInt8.toInt32).toInt64) &&& (255 : Int64)) <<< ((32 : Int32) &&& 0x3f).toInt64)) ||| ((((((((q0.toUInt64 >>> ((40 : Int32) &&& 0x3f).toInt64.toUInt64).toInt64).toInt32).toInt8.toInt32).toInt8.toInt32).toInt64) &&& (255 : Int64)) <<< ((40 : Int32) &&& 0x3f).toInt64)))])) rfl rfl (hb hby at_89) _ zk) ?_
  refine own_st (fun zw zk => XS.i2l X10.here hx rfl (hb hby at_90) rfl zk) ?_
  refine own_st (fun zw zk => X10.ldc2Long hx hown (mvT hZ (hw _ (List.mem_of_getElem? (i := 5) rfl))) (g := (mkF m 91 #[.val (.long q0), .second, .val (.ref b10), .unset, .unset] [(.long ((((((q0.toUInt64 >>> ((48 : Int32) &&& 0x3f).toInt64.toUInt64).toInt64).toInt32).toInt8.toInt32).toInt8.toInt32).toInt64)), (.long ((((((((((((q0.toUInt64 >>> ((0 : Int32) &&& 0x3f).toInt64.toUInt64).toInt64).toInt32).toInt8.toInt32).toInt8.toInt32).toInt64) &&& (255 : Int64)) ||| ((((((((q0.toUInt64 >>> ((8 : Int32) &&& 0x3f).toInt64.toUInt64).toInt64).toInt32).toInt8.toInt32).toInt8.toInt32).toInt64) &&& (255 : Int64)) <<< ((8 : Int32) &&& 0x3f).toInt64)) ||| ((((((((q0.toUInt64 >>> ((16 : Int32) &&& 0x3f).toInt64.toUInt64).toInt64).toInt32).toInt8.toInt32).toInt8.toInt32).toInt64) &&& (255 : Int64)) <<< ((16 : Int32) &&& 0x3f).toInt64)) ||| ((((((((q0.toUInt64 >>> ((24 : Int32) &&& 0x3f).toInt64.toUInt64).toInt64).toInt32).toInt8.toInt32).toInt8.toInt32).toInt64) &&& (255 : Int64)) <<< ((24 : Int32) &&& 0x3f).toInt64)) ||| ((((((((q0.toUInt64 >>> ((32 : Int32) &&& 0x3f).toInt64.toUInt64).toInt64).toInt32).toInt8.toInt32).toInt8.toInt32).toInt64) &&& (255 : Int64)) <<< ((32 : Int32) &&& 0x3f).toInt64)) ||| ((((((((q0.toUInt64 >>> ((40 : Int32) &&& 0x3f).toInt64.toUInt64).toInt64).toInt32).toInt8.toInt32).toInt8.toInt32).toInt64) &&& (255 : Int64)) <<< ((40 : Int32) &&& 0x3f).toInt64)))])) rfl (hb hby at_91) _ zk) ?_
  refine own_st (fun zw zk => XS.land X10.here hx rfl (hb hby at_94) rfl zk) ?_
  refine own_st (fun zw zk => XS.bipush X10.here hx rfl (hb hby at_95) zk) ?_
  show own_Go p e below G (T10.setTop (mkF m 97 #[.val (.long q0), .second, .val (.ref b10), .unset, .unset] [(.int (48 : Int32)), (.long (((((((q0.toUInt64 >>> ((48 : Int32) &&& 0x3f).toInt64.toUInt64).toInt64).toInt32).toInt8.toInt32).toInt8.toInt32).toInt64) &&& (255 : Int64))), (.long ((((((((((((q0.toUInt64 >>> ((0 : Int32) &&& 0x3f).toInt64.toUInt64).toInt64).toInt32).toInt8.toInt32).toInt8.toInt32).toInt64) &&& (255 : Int64)) ||| ((((((((q0.toUInt64 >>> ((8 : Int32) &&& 0x3f).toInt64.toUInt64).toInt64).toInt32).toInt8.toInt32).toInt8.toInt32).toInt64) &&& (255 : Int64)) <<< ((8 : Int32) &&& 0x3f).toInt64)) ||| ((((((((q0.toUInt64 >>> ((16 : Int32) &&& 0x3f).toInt64.toUInt64).toInt64).toInt32).toInt8.toInt32).toInt8.toInt32).toInt64) &&& (255 : Int64)) <<< ((16 : Int32) &&& 0x3f).toInt64)) ||| ((((((((q0.toUInt64 >>> ((24 : Int32) &&& 0x3f).toInt64.toUInt64).toInt64).toInt32).toInt8.toInt32).toInt8.toInt32).toInt64) &&& (255 : Int64)) <<< ((24 : Int32) &&& 0x3f).toInt64)) ||| ((((((((q0.toUInt64 >>> ((32 : Int32) &&& 0x3f).toInt64.toUInt64).toInt64).toInt32).toInt8.toInt32).toInt8.toInt32).toInt64) &&& (255 : Int64)) <<< ((32 : Int32) &&& 0x3f).toInt64)) ||| ((((((((q0.toUInt64 >>> ((40 : Int32) &&& 0x3f).toInt64.toUInt64).toInt64).toInt32).toInt8.toInt32).toInt8.toInt32).toInt64) &&& (255 : Int64)) <<< ((40 : Int32) &&& 0x3f).toInt64)))]))
  refine own_st (fun zw zk => XS.lshl X10.here hx rfl (hb hby at_97) rfl zk) ?_
  refine own_st (fun zw zk => XS.lor X10.here hx rfl (hb hby at_98) rfl zk) ?_
  refine own_st (fun zw zk => XS.aloadN X10.here hx rfl (hb hby at_99) rfl rfl zk) ?_
  refine own_st (fun zw zk => XS.bipush X10.here hx rfl (hb hby at_100) zk) ?_
  refine own_st (fun zw zk => own_bld X10 hx hZ rfl R10_0 (j := (7 : Int32)) (v := (.int (((((q0.toUInt64 >>> ((56 : Int32) &&& 0x3f).toInt64.toUInt64).toInt64).toInt32).toInt8.toInt32).toInt8.toInt32))) (i := 7) (by decide) (by decide) rfl (g := (mkF m 102 #[.val (.long q0), .second, .val (.ref b10), .unset, .unset] [(.int (7 : Int32)), (.ref b10), (.long (((((((((((((q0.toUInt64 >>> ((0 : Int32) &&& 0x3f).toInt64.toUInt64).toInt64).toInt32).toInt8.toInt32).toInt8.toInt32).toInt64) &&& (255 : Int64)) ||| ((((((((q0.toUInt64 >>> ((8 : Int32) &&& 0x3f).toInt64.toUInt64).toInt64).toInt32).toInt8.toInt32).toInt8.toInt32).toInt64) &&& (255 : Int64)) <<< ((8 : Int32) &&& 0x3f).toInt64)) ||| ((((((((q0.toUInt64 >>> ((16 : Int32) &&& 0x3f).toInt64.toUInt64).toInt64).toInt32).toInt8.toInt32).toInt8.toInt32).toInt64) &&& (255 : Int64)) <<< ((16 : Int32) &&& 0x3f).toInt64)) ||| ((((((((q0.toUInt64 >>> ((24 : Int32) &&& 0x3f).toInt64.toUInt64).toInt64).toInt32).toInt8.toInt32).toInt8.toInt32).toInt64) &&& (255 : Int64)) <<< ((24 : Int32) &&& 0x3f).toInt64)) ||| ((((((((q0.toUInt64 >>> ((32 : Int32) &&& 0x3f).toInt64.toUInt64).toInt64).toInt32).toInt8.toInt32).toInt8.toInt32).toInt64) &&& (255 : Int64)) <<< ((32 : Int32) &&& 0x3f).toInt64)) ||| ((((((((q0.toUInt64 >>> ((40 : Int32) &&& 0x3f).toInt64.toUInt64).toInt64).toInt32).toInt8.toInt32).toInt8.toInt32).toInt64) &&& (255 : Int64)) <<< ((40 : Int32) &&& 0x3f).toInt64)) ||| ((((((((q0.toUInt64 >>> ((48 : Int32) &&& 0x3f).toInt64.toUInt64).toInt64).toInt32).toInt8.toInt32).toInt8.toInt32).toInt64) &&& (255 : Int64)) <<< ((48 : Int32) &&& 0x3f).toInt64)))])) rfl rfl (hb hby at_102) _ zk) ?_
  refine own_st (fun zw zk => XS.i2l X10.here hx rfl (hb hby at_103) rfl zk) ?_
  refine own_st (fun zw zk => X10.ldc2Long hx hown (mvT hZ (hw _ (List.mem_of_getElem? (i := 5) rfl))) (g := (mkF m 104 #[.val (.long q0), .second, .val (.ref b10), .unset, .unset] [(.long ((((((q0.toUInt64 >>> ((56 : Int32) &&& 0x3f).toInt64.toUInt64).toInt64).toInt32).toInt8.toInt32).toInt8.toInt32).toInt64)), (.long (((((((((((((q0.toUInt64 >>> ((0 : Int32) &&& 0x3f).toInt64.toUInt64).toInt64).toInt32).toInt8.toInt32).toInt8.toInt32).toInt64) &&& (255 : Int64)) ||| ((((((((q0.toUInt64 >>> ((8 : Int32) &&& 0x3f).toInt64.toUInt64).toInt64).toInt32).toInt8.toInt32).toInt8.toInt32).toInt64) &&& (255 : Int64)) <<< ((8 : Int32) &&& 0x3f).toInt64)) ||| ((((((((q0.toUInt64 >>> ((16 : Int32) &&& 0x3f).toInt64.toUInt64).toInt64).toInt32).toInt8.toInt32).toInt8.toInt32).toInt64) &&& (255 : Int64)) <<< ((16 : Int32) &&& 0x3f).toInt64)) ||| ((((((((q0.toUInt64 >>> ((24 : Int32) &&& 0x3f).toInt64.toUInt64).toInt64).toInt32).toInt8.toInt32).toInt8.toInt32).toInt64) &&& (255 : Int64)) <<< ((24 : Int32) &&& 0x3f).toInt64)) ||| ((((((((q0.toUInt64 >>> ((32 : Int32) &&& 0x3f).toInt64.toUInt64).toInt64).toInt32).toInt8.toInt32).toInt8.toInt32).toInt64) &&& (255 : Int64)) <<< ((32 : Int32) &&& 0x3f).toInt64)) ||| ((((((((q0.toUInt64 >>> ((40 : Int32) &&& 0x3f).toInt64.toUInt64).toInt64).toInt32).toInt8.toInt32).toInt8.toInt32).toInt64) &&& (255 : Int64)) <<< ((40 : Int32) &&& 0x3f).toInt64)) ||| ((((((((q0.toUInt64 >>> ((48 : Int32) &&& 0x3f).toInt64.toUInt64).toInt64).toInt32).toInt8.toInt32).toInt8.toInt32).toInt64) &&& (255 : Int64)) <<< ((48 : Int32) &&& 0x3f).toInt64)))])) rfl (hb hby at_104) _ zk) ?_
  refine own_st (fun zw zk => XS.land X10.here hx rfl (hb hby at_107) rfl zk) ?_
  show own_Go p e below G (T10.setTop (mkF m 108 #[.val (.long q0), .second, .val (.ref b10), .unset, .unset] [(.long (((((((q0.toUInt64 >>> ((56 : Int32) &&& 0x3f).toInt64.toUInt64).toInt64).toInt32).toInt8.toInt32).toInt8.toInt32).toInt64) &&& (255 : Int64))), (.long (((((((((((((q0.toUInt64 >>> ((0 : Int32) &&& 0x3f).toInt64.toUInt64).toInt64).toInt32).toInt8.toInt32).toInt8.toInt32).toInt64) &&& (255 : Int64)) ||| ((((((((q0.toUInt64 >>> ((8 : Int32) &&& 0x3f).toInt64.toUInt64).toInt64).toInt32).toInt8.toInt32).toInt8.toInt32).toInt64) &&& (255 : Int64)) <<< ((8 : Int32) &&& 0x3f).toInt64)) ||| ((((((((q0.toUInt64 >>> ((16 : Int32) &&& 0x3f).toInt64.toUInt64).toInt64).toInt32).toInt8.toInt32).toInt8.toInt32).toInt64) &&& (255 : Int64)) <<< ((16 : Int32) &&& 0x3f).toInt64)) ||| ((((((((q0.toUInt64 >>> ((24 : Int32) &&& 0x3f).toInt64.toUInt64).toInt64).toInt32).toInt8.toInt32).toInt8.toInt32).toInt64) &&& (255 : Int64)) <<< ((24 : Int32) &&& 0x3f).toInt64)) ||| ((((((((q0.toUInt64 >>> ((32 : Int32) &&& 0x3f).toInt64.toUInt64).toInt64).toInt32).toInt8.toInt32).toInt8.toInt32).toInt64) &&& (255 : Int64)) <<< ((32 : Int32) &&& 0x3f).toInt64)) ||| ((((((((q0.toUInt64 >>> ((40 : Int32) &&& 0x3f).toInt64.toUInt64).toInt64).toInt32).toInt8.toInt32).toInt8.toInt32).toInt64) &&& (255 : Int64)) <<< ((40 : Int32) &&& 0x3f).toInt64)) ||| ((((((((q0.toUInt64 >>> ((48 : Int32) &&& 0x3f).toInt64.toUInt64).toInt64).toInt32).toInt8.toInt32).toInt8.toInt32).toInt64) &&& (255 : Int64)) <<< ((48 : Int32) &&& 0x3f).toInt64)))]))
  refine own_st (fun zw zk => XS.bipush X10.here hx rfl (hb hby at_108) zk) ?_
  refine own_st (fun zw zk => XS.lshl X10.here hx rfl (hb hby at_110) rfl zk) ?_
  refine own_st (fun zw zk => XS.lor X10.here hx rfl (hb hby at_111) rfl zk) ?_
  refine own_st (fun zw zk => XS.lstoreN X10.here hx rfl (hb hby at_112) rfl rfl zk) ?_
  show own_Go p e below G (T10.setTop (mkF m 113 #[.val (.long q0), .second, .val (.ref b10), .val (.long ((((((((((((((q0.toUInt64 >>> ((0 : Int32) &&& 0x3f).toInt64.toUInt64).toInt64).toInt32).toInt8.toInt32).toInt8.toInt32).toInt64) &&& (255 : Int64)) ||| ((((((((q0.toUInt64 >>> ((8 : Int32) &&& 0x3f).toInt64.toUInt64).toInt64).toInt32).toInt8.toInt32).toInt8.toInt32).toInt64) &&& (255 : Int64)) <<< ((8 : Int32) &&& 0x3f).toInt64)) ||| ((((((((q0.toUInt64 >>> ((16 : Int32) &&& 0x3f).toInt64.toUInt64).toInt64).toInt32).toInt8.toInt32).toInt8.toInt32).toInt64) &&& (255 : Int64)) <<< ((16 : Int32) &&& 0x3f).toInt64)) ||| ((((((((q0.toUInt64 >>> ((24 : Int32) &&& 0x3f).toInt64.toUInt64).toInt64).toInt32).toInt8.toInt32).toInt8.toInt32).toInt64) &&& (255 : Int64)) <<< ((24 : Int32) &&& 0x3f).toInt64)) ||| ((((((((q0.toUInt64 >>> ((32 : Int32) &&& 0x3f).toInt64.toUInt64).toInt64).toInt32).toInt8.toInt32).toInt8.toInt32).toInt64) &&& (255 : Int64)) <<< ((32 : Int32) &&& 0x3f).toInt64)) ||| ((((((((q0.toUInt64 >>> ((40 : Int32) &&& 0x3f).toInt64.toUInt64).toInt64).toInt32).toInt8.toInt32).toInt8.toInt32).toInt64) &&& (255 : Int64)) <<< ((40 : Int32) &&& 0x3f).toInt64)) ||| ((((((((q0.toUInt64 >>> ((48 : Int32) &&& 0x3f).toInt64.toUInt64).toInt64).toInt32).toInt8.toInt32).toInt8.toInt32).toInt64) &&& (255 : Int64)) <<< ((48 : Int32) &&& 0x3f).toInt64)) ||| ((((((((q0.toUInt64 >>> ((56 : Int32) &&& 0x3f).toInt64.toUInt64).toInt64).toInt32).toInt8.toInt32).toInt8.toInt32).toInt64) &&& (255 : Int64)) <<< ((56 : Int32) &&& 0x3f).toInt64))), .second] []))
  refine own_st (fun zw zk => XS.lloadN X10.here hx rfl (hb hby at_113) rfl zk) ?_
  refine own_st (fun zw zk => XS.lloadN X10.here hx rfl (hb hby at_114) rfl zk) ?_
  refine own_st (fun zw zk => XS.lcmp X10.here hx rfl (hb hby at_115) rfl zk) ?_
  have hc116 : ((((((((((((((q0.toUInt64 >>> ((0 : Int32) &&& 0x3f).toInt64.toUInt64).toInt64).toInt32).toInt8.toInt32).toInt8.toInt32).toInt64) &&& (255 : Int64)) ||| ((((((((q0.toUInt64 >>> ((8 : Int32) &&& 0x3f).toInt64.toUInt64).toInt64).toInt32).toInt8.toInt32).toInt8.toInt32).toInt64) &&& (255 : Int64)) <<< ((8 : Int32) &&& 0x3f).toInt64)) ||| ((((((((q0.toUInt64 >>> ((16 : Int32) &&& 0x3f).toInt64.toUInt64).toInt64).toInt32).toInt8.toInt32).toInt8.toInt32).toInt64) &&& (255 : Int64)) <<< ((16 : Int32) &&& 0x3f).toInt64)) ||| ((((((((q0.toUInt64 >>> ((24 : Int32) &&& 0x3f).toInt64.toUInt64).toInt64).toInt32).toInt8.toInt32).toInt8.toInt32).toInt64) &&& (255 : Int64)) <<< ((24 : Int32) &&& 0x3f).toInt64)) ||| ((((((((q0.toUInt64 >>> ((32 : Int32) &&& 0x3f).toInt64.toUInt64).toInt64).toInt32).toInt8.toInt32).toInt8.toInt32).toInt64) &&& (255 : Int64)) <<< ((32 : Int32) &&& 0x3f).toInt64)) ||| ((((((((q0.toUInt64 >>> ((40 : Int32) &&& 0x3f).toInt64.toUInt64).toInt64).toInt32).toInt8.toInt32).toInt8.toInt32).toInt64) &&& (255 : Int64)) <<< ((40 : Int32) &&& 0x3f).toInt64)) ||| ((((((((q0.toUInt64 >>> ((48 : Int32) &&& 0x3f).toInt64.toUInt64).toInt64).toInt32).toInt8.toInt32).toInt8.toInt32).toInt64) &&& (255 : Int64)) <<< ((48 : Int32) &&& 0x3f).toInt64)) ||| ((((((((q0.toUInt64 >>> ((56 : Int32) &&& 0x3f).toInt64.toUInt64).toInt64).toInt32).toInt8.toInt32).toInt8.toInt32).toInt64) &&& (255 : Int64)) <<< ((56 : Int32) &&& 0x3f).toInt64)) = q0 := own_law q0
  refine own_st (fun zw zk => XS.ifNo X10.here hx rfl (hb hby at_116) rfl ((if0 _ _).trans (teq (own_tle hc116)).2) zk) ?_
  refine own_st (fun zw zk => XS.iconst X10.here hx rfl (hb hby at_119) zk) ?_
  refine own_st (fun zw zk => XS.goto X10.here hx rfl (pc0 := 120) (pc' := 124) rfl (hb hby at_120) (by decide) (by decide) zk) ?_
  show own_Go p e below G (T10.setTop (mkF m 124 #[.val (.long q0), .second, .val (.ref b10), .val (.long ((((((((((((((q0.toUInt64 >>> ((0 : Int32) &&& 0x3f).toInt64.toUInt64).toInt64).toInt32).toInt8.toInt32).toInt8.toInt32).toInt64) &&& (255 : Int64)) ||| ((((((((q0.toUInt64 >>> ((8 : Int32) &&& 0x3f).toInt64.toUInt64).toInt64).toInt32).toInt8.toInt32).toInt8.toInt32).toInt64) &&& (255 : Int64)) <<< ((8 : Int32) &&& 0x3f).toInt64)) ||| ((((((((q0.toUInt64 >>> ((16 : Int32) &&& 0x3f).toInt64.toUInt64).toInt64).toInt32).toInt8.toInt32).toInt8.toInt32).toInt64) &&& (255 : Int64)) <<< ((16 : Int32) &&& 0x3f).toInt64)) ||| ((((((((q0.toUInt64 >>> ((24 : Int32) &&& 0x3f).toInt64.toUInt64).toInt64).toInt32).toInt8.toInt32).toInt8.toInt32).toInt64) &&& (255 : Int64)) <<< ((24 : Int32) &&& 0x3f).toInt64)) ||| ((((((((q0.toUInt64 >>> ((32 : Int32) &&& 0x3f).toInt64.toUInt64).toInt64).toInt32).toInt8.toInt32).toInt8.toInt32).toInt64) &&& (255 : Int64)) <<< ((32 : Int32) &&& 0x3f).toInt64)) ||| ((((((((q0.toUInt64 >>> ((40 : Int32) &&& 0x3f).toInt64.toUInt64).toInt64).toInt32).toInt8.toInt32).toInt8.toInt32).toInt64) &&& (255 : Int64)) <<< ((40 : Int32) &&& 0x3f).toInt64)) ||| ((((((((q0.toUInt64 >>> ((48 : Int32) &&& 0x3f).toInt64.toUInt64).toInt64).toInt32).toInt8.toInt32).toInt8.toInt32).toInt64) &&& (255 : Int64)) <<< ((48 : Int32) &&& 0x3f).toInt64)) ||| ((((((((q0.toUInt64 >>> ((56 : Int32) &&& 0x3f).toInt64.toUInt64).toInt64).toInt32).toInt8.toInt32).toInt8.toInt32).toInt64) &&& (255 : Int64)) <<< ((56 : Int32) &&& 0x3f).toInt64))), .second] [(.int (1 : Int32))]))
  subst hG
  obtain ⟨fs, hr, hrun, hended, hW, hsame⟩ := X10.leave (v := some (.int (1 : Int32))) (fun h => by rw [Bd.returns] at h; cases h)
  refine ⟨_, retN X10 hx (t := .boolean) Bd.returns (by simp) (hb hby at_124) hr, _, hrun, hended, _, _, rfl, ?_, ⟨_, rfl⟩, hW, hsame.mono (by decide) (by decide)⟩
  show Q0 Z q0 h0 n0 _ T10.heap _
  exact ⟨rfl, N10⟩
set_option maxRecDepth 65536 in
set_option maxHeartbeats 40000000 in
theorem comes_1 {Post : Tables → Env → Array Value → State → Outcome → State → Prop} (hpost : ∀ tb e args s v u, (limb_1_1.after args s (.returned v) u = true ∧ limb_1_2.after args s (.returned v) u = true ∧ True) → FrameEnd s (.returned v) u (Jvm.fieldLocs frame_1_writes args s ++ Jvm.arrayLocs frame_1_arrays args s ++ Jvm.staticLocs frame_1_statics s) 16 128 → Post tb e args s (.returned v) u) :
    ArmFor flags0 classFile x code maxLocals ret World_1 tables_1 room_1 Calls_1 rest_1 Pre_1 Post := by
  intro l hfl _ _ p e ha hc hk s m args below hf hA hF happ hP
  obtain ⟨hcalls, hrest, hpre⟩ := hP
  obtain ⟨-, -, -, hnamed, -, -, -, hat⟩ := (Spec.applies_iff hf).mp happ
  obtain ⟨hg, hn⟩ := and_e (Cond.before_iff.mp (show (Jvm.Cond.and given_1 narrow_1).before args s = true from hpre))
  obtain ⟨g1, g2⟩ := and_e hg
  obtain ⟨w0, rfl⟩ : ∃ w0 : Value, args = #[w0] := by
    have hs : args.size = 1 := by simpa [Cond.value, given_1] using g1
    obtain ⟨L⟩ := args
    match L, hs with
    | [w0], _ => exact ⟨w0, rfl⟩
  have hw := fun d (hd : d ∈ tables_1) => atoms_spec (ws := Jvm.Cond.code x code maxLocals ret :: tables_1) hat d (List.mem_cons_of_mem _ hd)
  obtain ⟨i0, ei0⟩ := isL_v g2
  obtain rfl : w0 = (.long i0) := Option.some.inj ei0
  obtain ⟨n, o, h1, h2, h3, _, L, rfl, ⟨rfl, N⟩, hq⟩ := rm0 l s _ hw tables_1 i0 s.heap s.heap.size (Nat.le_refl _) p e ha hc hk s m _ below hf ((Spec.applies_iff_loose hf).mp happ).1 ⟨rfl, State.Warmed39.refl s, rfl⟩ trivial
  refine ⟨n, _, h1, h2, h3, hpost _ _ _ _ _ _ ⟨Cond.after_iff.mpr rfl, Cond.after_iff.mpr (eq_i res_at (Term.int_eval (1)) rfl), trivial⟩ ⟨hq.1, hq.2.1, (hq.2.2.sift fun y hy => Or.inr (N y hy)).mono (by decide) (by decide)⟩⟩
theorem main_1_1 : Claimed_1_1 := comes_1 fun _ _ _ _ _ _ h hF => ⟨h.1, hF⟩
theorem main_1_2 : Claimed_1_2 := comes_1 fun _ _ _ _ _ _ h hF => ⟨h.2.1, hF⟩
end Jvm.Pilot.@@N@@
namespace Jvm.Pilot.@@N@@
open Jvm Jvm.ClassFile Sem Op Lib Jvm.Free Jvm.Stand Jvm.Pilot.@@N@@.Jvm.D
/-! MADE BY PROGRAM (witnessworld.py) out of the Statement's table words and the real class files: 7 classes; the members and pool entries that the words name. The judged class is class 1, her method 1. -/
namespace start1
open Jvm.ClassFile
def u (s : String) : CpInfo := .utf8 (stringToUtf16 s)
/-- a pool by its gaps: so many unusable entries, then the entry; so many at the end -/
def gap : Nat → List CpInfo → List CpInfo
  | 0, r => r
  | n + 1, r => .unusable :: gap n r
def poolList (es : List (Nat × CpInfo)) (last : Nat) : List CpInfo := es.foldr (fun e r => gap e.1 (e.2 :: r)) (gap last [])
def pool (es : List (Nat × CpInfo)) (last : Nat) : Array CpInfo := ⟨poolList es last⟩
def fileOf (pool : Array CpInfo) (this : Nat) (attrs : Array Attribute := #[]) (ms : Array MethodInfo := #[]) (fl : Nat := 33) (sup : Nat := 0) (ifs : Array Nat := #[]) (fds : Array FieldInfo := #[]) : ClassFile where
  minorVersion := 0
  majorVersion := 65
  constantPool := pool
  accessFlags := fl
  thisClass := this
  superClass := sup
  interfaces := ifs
  fields := fds
  methods := ms
  attributes := attrs
def plain (name : String) (sup : Option ClassId) : Class where
  name := name
  kind := .ordinary
  loader := none
  accessFlags := 33
  super := sup
  interfaces := #[]
  cf := none
  fields := #[]
  methods := #[]
  instanceTypes := #[]
  staticTypes := #[]
  resolved := #[]
  callSites := []
  init := .initialized
  statics := none
  mirror := none

def pool0 : Array CpInfo := pool [(5, u "<init>"), (0, u "()V"), (1, .class_ 10), (1, u "java/lang/Object")] 113

def k0m0 : Method := { name := "<init>", desc := "()V", sig := { parameters := [], returnType := none }, accessFlags := 1, code := none }
/-- java/lang/Object -/
def k0 : Class := { plain "java/lang/Object" none with
  accessFlags := 33
  interfaces := #[]
  cf := some (fileOf pool0 8 #[] #[{ accessFlags := 1, nameIndex := 5, descriptorIndex := 6, attributes := #[] }] 33 0 #[] #[])
  fields := #[]
  methods := #[k0m0]
  instanceTypes := #[]
  staticTypes := #[]
  resolved := Array.replicate 124 none
  statics := none }

def pool1 : Array CpInfo := pool [(2, .class_ 4), (1, u "java/lang/Object"), (0, u "<init>"), (0, u "()V"), (0, .methodref 8 9), (0, .class_ 10), (0, .nameAndType 11 12), (0, u "com/example/out_filter/outfilter/Keys"), (0, u "littleEndian"), (0, u "(J)[B"), (0, .long 255), (1, .class_ 16), (0, u "com/example/out_filter/outfilter/KeysLittleEndianPinLaw"), (2, u "law"), (0, u "(J)Z")] 5

def k1m0 : Method := { name := "<init>", desc := "()V", sig := { parameters := [], returnType := none }, accessFlags := 2, code := none }
def k1c1 : Code := { maxStack := 6, maxLocals := 5, code := code, exceptionTable := #[], attributes := #[] }
def k1m1 : Method := { name := "law", desc := "(J)Z", sig := { parameters := [.long], returnType := some .boolean }, accessFlags := 9, code := some k1c1 }
/-- com/example/out_filter/outfilter/KeysLittleEndianPinLaw -/
def k1 : Class := { plain "com/example/out_filter/outfilter/KeysLittleEndianPinLaw" (some 0) with
  accessFlags := 49
  interfaces := #[]
  cf := some (fileOf pool1 15 #[] #[{ accessFlags := 2, nameIndex := 5, descriptorIndex := 6, attributes := #[] }, { accessFlags := 9, nameIndex := 19, descriptorIndex := 20, attributes := #[] }] 49 2 #[] #[])
  fields := #[]
  methods := #[k1m0, k1m1]
  instanceTypes := #[]
  staticTypes := #[]
  resolved := Array.replicate 26 none
  statics := none }

def pool2 : Array CpInfo := pool [(2, .class_ 4), (1, u "java/lang/Object"), (0, u "<init>"), (0, u "()V"), (14, .class_ 22), (0, u "com/example/out_filter/outfilter/Keys"), (4, u "littleEndian"), (0, u "(J)[B")] 5

def k2m0 : Method := { name := "<init>", desc := "()V", sig := { parameters := [], returnType := none }, accessFlags := 2, code := none }
def k2c1 : Code := { maxStack := 6, maxLocals := 4, code := prog_15_method_3_code, exceptionTable := #[], attributes := #[] }
def k2m1 : Method := { name := "littleEndian", desc := "(J)[B", sig := { parameters := [.long], returnType := some (.array .byte) }, accessFlags := 8, code := some k2c1 }
/-- com/example/out_filter/outfilter/Keys -/
def k2 : Class := { plain "com/example/out_filter/outfilter/Keys" (some 0) with
  accessFlags := 48
  interfaces := #[]
  cf := some (fileOf pool2 21 #[] #[{ accessFlags := 2, nameIndex := 5, descriptorIndex := 6, attributes := #[] }, { accessFlags := 8, nameIndex := 27, descriptorIndex := 28, attributes := #[] }] 48 2 #[] #[])
  fields := #[]
  methods := #[k2m0, k2m1]
  instanceTypes := #[]
  staticTypes := #[]
  resolved := Array.replicate 34 none
  statics := none }

def pool3 : Array CpInfo := pool [(1, u "java/lang/Cloneable"), (0, .class_ 1), (0, u "java/lang/Object"), (0, .class_ 3)] 3

/-- java/lang/Cloneable -/
def k3 : Class := { plain "java/lang/Cloneable" (some 0) with
  accessFlags := 1537
  interfaces := #[]
  cf := some (fileOf pool3 2 #[] #[] 1537 4 #[] #[])
  fields := #[]
  methods := #[]
  instanceTypes := #[]
  staticTypes := #[]
  resolved := Array.replicate 8 none
  statics := none }

def pool4 : Array CpInfo := pool [(1, u "java/io/Serializable"), (0, .class_ 1), (0, u "java/lang/Object"), (0, .class_ 3)] 3

/-- java/io/Serializable -/
def k4 : Class := { plain "java/io/Serializable" (some 0) with
  accessFlags := 1537
  interfaces := #[]
  cf := some (fileOf pool4 2 #[] #[] 1537 4 #[] #[])
  fields := #[]
  methods := #[]
  instanceTypes := #[]
  staticTypes := #[]
  resolved := Array.replicate 8 none
  statics := none }

/-- the primitive byte -/
def k5 : Class := { plain "byte" none with kind := .primitive 'B', accessFlags := 0x411 }
/-- [B -/
def k6 : Class := { plain "[B" (some 0) with kind := .array 5 .byte, interfaces := #[3, 4], accessFlags := 1041 }

def heap : Heap := #[]
def classes : Array Class := #[k0, k1, k2, k3, k4, k5, k6]
def interned : List (Array UInt16 × Addr) := []
def slotsUsed : Nat := 0
def theMethod : MethodId := ⟨1, 1⟩
def args0 : Array Value := #[.long 5]
def aboutOver (below : List Frame) : State where
  vm := { classes := classes, interned := interned.toArray }
  heap := heap
  slotsUsed := slotsUsed
  threads := #[{ frames := .invoking theMethod args0 :: below }]
def below0 : List Frame := [.native { method := ⟨0, 0⟩, args := #[] }]
def about1 : State := aboutOver below0
def p0 : Program := .bare "" "" ""
def e0 : Env := launch0.env 0 0 0
theorem w_frames : about1.frames = Frame.invoking theMethod args0 :: below0 := rfl
set_option maxRecDepth 65536 in
theorem w_args : argsFit about1.vm theMethod args0 = true := by decide +kernel
set_option maxRecDepth 65536 in
theorem w_heap : heapFits about1 = true := by decide +kernel
set_option maxRecDepth 65536 in
theorem w_runnable : about1.curStatus? = some .runnable := by decide +kernel
set_option maxRecDepth 65536 in
theorem w_alone : about1.alone = true := by decide +kernel
set_option maxRecDepth 65536 in
theorem w_named : about1.methodNamed? x = some theMethod := by decide +kernel
set_option maxRecDepth 65536 in
theorem w_hears : about1.hears theMethod below0 = true := by decide +kernel
set_option maxRecDepth 65536 in
theorem w_ripe : about1.ripe theMethod args0 below0 = true := by decide +kernel
theorem w_running : about1.status = .running := rfl
set_option maxRecDepth 65536 in
theorem w_room : about1.hasRoom e0.platform room_1 = true :=
  launch0.hasRoom_least _ room_1 (by decide +kernel) (by decide +kernel) (by decide +kernel) (by decide +kernel) (by decide +kernel) (by decide +kernel)
theorem allAtoms_all (ts : List Jvm.Cond) (a : Array Jvm.Value) (st : Jvm.State) : (allAtoms ts).before a st = ts.all (fun c => c.before a st) := by
  induction ts with
  | nil => rfl
  | cons c t ih =>
    show (Jvm.Cond.and c (allAtoms t)).before a st = _
    rw [Jvm.Cond.before_and, ih, List.all_cons]
def words1 : List Jvm.Cond := Jvm.Cond.code x code maxLocals ret :: tables_1
/-- a 'code' word, met by the world's own term for the bytes: nothing is compared byte by byte -/
theorem code_word {y : MethodName} {bytes : ByteArray} {mx : Nat} {rt : Option FieldType} {a : Array Value} {s : State} {m : MethodId} {meth : Method} {c : Code} (h1 : s.methodNamed? y = some m) (h2 : s.vm.method? m = some meth) (h3 : meth.code = some c) (h4 : c.code = bytes)
    (h5 : (c.maxLocals == mx && c.exceptionTable.isEmpty && decide (c.maxStack ≤ mostOperands) && decide (meth.sig.returnType = rt) && !meth.locks && decide (parseMethodDescriptor y.desc = some meth.sig)) = true) : (Jvm.Cond.code y bytes mx rt).before a s = true := by
  simp only [Bool.and_eq_true, beq_iff_eq, Bool.not_eq_true', decide_eq_true_eq] at h5
  obtain ⟨⟨⟨⟨⟨g1, g2⟩, g3⟩, g4⟩, g5⟩, g6⟩ := h5
  simp [Cond.before, Cond.holds, Cond.value, h1, h2, h3, h4, g1, g2, g3, g4, g5, g6]
def isCode : Jvm.Cond → Bool
  | .code _ _ _ _ => true
  | _ => false
theorem all_split {L : List Jvm.Cond} {P : Jvm.Cond → Bool} (h1 : L.all (fun c => isCode c || P c) = true) (h2 : ∀ c ∈ L.filter isCode, P c = true) : L.all P = true := by
  refine List.all_eq_true.mpr fun c hc => ?_
  have h := List.all_eq_true.mp h1 c hc
  rcases Bool.eq_false_or_eq_true (isCode c) with hi | hi
  · exact h2 c (List.mem_filter.mpr ⟨hc, hi⟩)
  · simpa [hi] using h
set_option maxRecDepth 65536 in
theorem w_c0 : (Jvm.Cond.code x code maxLocals ret).before args0 about1 = true := code_word (m := ⟨1, 1⟩) (meth := k1m1) (c := k1c1) (by decide +kernel) rfl rfl rfl (by decide +kernel)
set_option maxRecDepth 65536 in
theorem w_c1 : (Jvm.Cond.code ({ cls := "com/example/out_filter/outfilter/Keys", name := "littleEndian", desc := "(J)[B" } : Jvm.MethodName) prog_15_method_3_code (4 : Nat) (Option.some (Jvm.ClassFile.FieldType.array Jvm.ClassFile.FieldType.byte))).before args0 about1 = true := code_word (m := ⟨2, 1⟩) (meth := k2m1) (c := k2c1) (by decide +kernel) rfl rfl rfl (by decide +kernel)
def codes1 : List Jvm.Cond := [Jvm.Cond.code x code maxLocals ret, Jvm.Cond.code ({ cls := "com/example/out_filter/outfilter/Keys", name := "littleEndian", desc := "(J)[B" } : Jvm.MethodName) prog_15_method_3_code (4 : Nat) (Option.some (Jvm.ClassFile.FieldType.array Jvm.ClassFile.FieldType.byte))]
set_option maxRecDepth 65536 in
theorem codes_eq : words1.filter isCode = codes1 := rfl
theorem w_codes : ∀ c ∈ words1.filter isCode, c.before args0 about1 = true := by
  rw [codes_eq]
  intro c hc
  simp only [codes1, List.mem_cons, List.not_mem_nil, or_false] at hc
  rcases hc with rfl | rfl
  · exact w_c0
  · exact w_c1
set_option maxRecDepth 65536 in
theorem w_t1 : words1.all (fun c => isCode c || c.before args0 about1) = true := by decide +kernel
theorem w_tables : (allAtoms (Jvm.Cond.code x code maxLocals ret :: tables_1)).before args0 about1 = true := by
  rw [allAtoms_all]
  show words1.all (fun c => c.before args0 about1) = true
  refine all_split ?_ w_codes
  rw [w_t1]
set_option maxRecDepth 65536 in
theorem w_case : (Jvm.Cond.and given_1 narrow_1).before args0 about1 = true := by decide +kernel
theorem w_applies : (headSpec (Jvm.Cond.code x code maxLocals ret :: tables_1) room_1).applies x e0.platform about1 = true :=
  (Spec.applies_iff w_frames).mpr ⟨w_running, w_runnable, w_alone, w_named, w_hears, w_ripe, w_room, w_tables⟩
theorem atStart : AtStart classFile x code maxLocals ret World_1 tables_1 room_1 Calls_1 rest_1 Pre_1 launch0 p0 e0 about1 theMethod args0 below0 :=
  ⟨lists_1, trivial, launch0.admits_env _ _ _, launch0.least_env, fairChoices_fair.cas, fairChoices_fair.clock, w_frames, w_args, w_heap, w_applies, trivial, trivial, w_case⟩
end start1
theorem witness_1 : WitnessClaimed_1 := ⟨start1.p0, start1.e0, start1.about1, start1.theMethod, start1.args0, start1.below0, start1.atStart⟩
end Jvm.Pilot.@@N@@
