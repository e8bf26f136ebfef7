import JvmDerived
import JvmDerived.Pilot.@@N@@Statement
import JvmDerived.Pilot.@@N@@Code
set_option linter.unusedVariables false
set_option linter.unusedSimpArgs false
namespace Jvm.Pilot.@@N@@
open Jvm Jvm.ClassFile Sem Op Lib Jvm.Free Jvm.Stand Jvm.LawKit Jvm.RoadKit Bundle Jvm.Pilot.@@N@@.Jvm.D
/-! own_Go: from t the run comes to a state where G holds. A walk is written backwards from the goal, so that a case split may stand anywhere. -/
def own_Go (p : Program) (e : Env) (below : List Frame) (G : State → Prop) (t : State) : Prop := ∃ u, Steps p.tables e below t u ∧ G u
theorem own_st {p : Program} {e : Env} {below : List Frame} {G : State → Prop} {t u : State} (f : ∀ w, Steps p.tables e below u w → Steps p.tables e below t w) (k : own_Go p e below G u) : own_Go p e below G t := by
  obtain ⟨w, s, g⟩ := k
  exact ⟨w, f w s, g⟩
theorem own_jp {p : Program} {e : Env} {below : List Frame} {G : State → Prop} {t u : State} (f : Steps p.tables e below t u) (k : own_Go p e below G u) : own_Go p e below G t := by
  obtain ⟨w, s, g⟩ := k
  exact ⟨w, f.trans s, g⟩
theorem own_out {p : Program} {e : Env} {below : List Frame} {t : State} {Q : Outcome → State → Prop} (k : own_Go p e below (fun u => ∃ o, u.status = .running ∧ Ended u below o ∧ Q o u) t) : ∃ s₂ o, Steps p.tables e below t s₂ ∧ s₂.status = .running ∧ Ended s₂ below o ∧ Q o s₂ := by
  obtain ⟨w, s, o, g⟩ := k
  exact ⟨w, o, s, g⟩
theorem own_nm {p : Program} {e : Env} {below : List Frame} {G0 : State → Prop} {t : State} (k : ∀ G, G = G0 → own_Go p e below G t) : own_Go p e below G0 t := k _ rfl
theorem own_tll {x y : Int64} (h : x < y) : lcmpW x y < 0 := (lw_lt x y).mpr h
theorem own_fll {x y : Int64} (h : ¬ x < y) : ¬ lcmpW x y < 0 := fun q => h ((lw_lt x y).mp q)
theorem own_tlg {x y : Int64} (h : y < x) : 0 < lcmpW x y := (lw_gt x y).mpr h
theorem own_flg {x y : Int64} (h : ¬ y < x) : ¬ 0 < lcmpW x y := fun q => h ((lw_gt x y).mp q)
theorem own_tle {x y : Int64} (h : x = y) : lcmpW x y = 0 := (lw_eq x y).mpr h
theorem own_fle {x y : Int64} (h : ¬ x = y) : ¬ lcmpW x y = 0 := fun q => h ((lw_eq x y).mp q)
section Own
variable {p : Program} {l : Launch} {e : Env} {R : Room} {s : State} {m : MethodId} {args : Array Value} {below : List Frame} {meth : Method} {c : Code} {T : State} {locs : List Loc} {cells slots : Nat} {Z : State} {h h' : Heap} {a b : Addr} {ty : FieldType} {vs : List Value} {v : Value}
theorem own_retI (X : Stand p l e R s m args below meth c T locs cells slots) (hx : p.tables.exec = Jvm.exec) {pc : Nat} {Ls : Array Slot} {z : Int32} {rest : List Value} (hret : meth.sig.returnType = some .int) (hd : decode c.code pc = .ok (.ireturn, 1)) {fs : List Frame}
    (hl : ∀ (f : JFrame) (acts : List Action), f.method = m → f.locked = none → f.entered = [] → (doReturn e (T.setTop f) acts (some (.int z))).1 = T.setFrames fs) : Steps p.tables e below (T.setTop (mkF m pc Ls (.int z :: rest))) (T.setFrames fs) :=
  retOut X hx hret rfl (Or.inl ⟨rfl, Or.inl rfl, z, rfl⟩) hd hl
theorem own_retJ (X : Stand p l e R s m args below meth c T locs cells slots) (hx : p.tables.exec = Jvm.exec) {pc : Nat} {Ls : Array Slot} {z : Int64} {rest : List Value} (hret : meth.sig.returnType = some .long) (hd : decode c.code pc = .ok (.lreturn, 1)) {fs : List Frame}
    (hl : ∀ (f : JFrame) (acts : List Action), f.method = m → f.locked = none → f.entered = [] → (doReturn e (T.setTop f) acts (some (.long z))).1 = T.setFrames fs) : Steps p.tables e below (T.setTop (mkF m pc Ls (.long z :: rest))) (T.setFrames fs) :=
  retOut X hx hret rfl (Or.inr (Or.inl ⟨rfl, rfl, z, rfl⟩)) hd hl
/-! own_L: the array at a holds just the list vs -/
def own_L (Z : State) (h : Heap) (a : Addr) (ty : FieldType) (vs : List Value) : Prop := ∃ cl : Cell, Arr Z h a cl ty ∧ cl.slots = vs.toArray
theorem own_L.lt (F : own_L Z h a ty vs) : a < h.size := by obtain ⟨cl, A, -⟩ := F; exact A.lt
theorem own_L.ext (F : own_L Z h a ty vs) (E : Ext h h') : own_L Z h' a ty vs := by obtain ⟨cl, A, q⟩ := F; exact ⟨cl, A.ext E, q⟩
theorem own_L.other {sl : Nat} (F : own_L Z h b ty vs) (W : Wr h h' a sl v) (q : b ≠ a) : own_L Z h' b ty vs := by obtain ⟨cl, A, r⟩ := F; exact ⟨cl, A.other W q, r⟩
theorem own_L.keep {ws : List Addr} (F : own_L Z h a ty vs) (K : Keep h h' ws) (q : a ∉ ws) : own_L Z h' a ty vs := by obtain ⟨cl, A, r⟩ := F; exact ⟨cl, ⟨K.2.1 a cl A.1 q, A.2⟩, r⟩
theorem own_L.new {k : ClassId} {z : Int32} (A : Arr Z h a (newA k ty z) ty) : own_L Z h a ty (List.replicate z.toNatClampNeg (defaultValue ty)) := ⟨_, A, by simp [newA]⟩
theorem own_L.same {k : Nat} (F : own_L Z h a ty vs) (W : Wr h h' a k v) : own_L Z h' a ty (vs.set k v) := by
  obtain ⟨cl, A, q⟩ := F
  exact ⟨_, A.same W, by simp [Cell.setSlot, q]⟩
theorem own_in {cl : Cell} {j : Int32} (q : cl.slots = vs.toArray) (h1 : ¬ j < 0) (h2 : j.toNatClampNeg < vs.length) : ¬ (j < 0 ∨ cl.slots.size ≤ j.toNatClampNeg) := by
  rw [q]
  rintro (r | r)
  · exact h1 r
  · simp at r; omega
theorem own_at {cl : Cell} {k : Nat} (q : cl.slots = vs.toArray) (hv : vs[k]? = some v) : cl.slots[k]? = some v := by rw [q]; simpa using hv
theorem own_lt {k : Nat} (hv : vs[k]? = some v) : k < vs.length := by
  obtain ⟨q, -⟩ := List.getElem?_eq_some_iff.mp hv
  exact q
theorem own_bld (X : Stand p l e R s m args below meth c T locs cells slots) (hx : p.tables.exec = Jvm.exec) (hZ : Z.Warmed39 s.vm) (eT : T.heap = h) (F : own_L Z h a .byte vs) {j : Int32} {i : Nat} (h1 : ¬ j < 0) (hi : j.toNatClampNeg = i) (hv : vs[i]? = some v) {g : JFrame} (hg : g.method = m) {rest : List Value} (hs : g.stack = .int j :: .ref a :: rest) (hd : decode c.code g.pc = .ok (.baload, 1)) :
    ∀ target, Steps p.tables e below (T.setTop { g with pc := g.pc + 1, stack := v :: rest }) target → Steps p.tables e below (T.setTop g) target := by
  obtain ⟨cl, A, q⟩ := F
  subst hi
  exact X.baloadBytes hx (by rw [eT]; exact A.1) (State.isArrayOf_alike hZ.alike A.2.1) A.2.2 (own_in q h1 (own_lt hv)) (own_at q hv) hg hs hd
theorem own_jld (X : Stand p l e R s m args below meth c T locs cells slots) (hx : p.tables.exec = Jvm.exec) (hZ : Z.Warmed39 s.vm) (eT : T.heap = h) (F : own_L Z h a .long vs) {j : Int32} {i : Nat} (h1 : ¬ j < 0) (hi : j.toNatClampNeg = i) (hv : vs[i]? = some v) {g : JFrame} (hg : g.method = m) {rest : List Value} (hs : g.stack = .int j :: .ref a :: rest) (hd : decode c.code g.pc = .ok (.laload, 1)) :
    ∀ target, Steps p.tables e below (T.setTop { g with pc := g.pc + 1, stack := v :: rest }) target → Steps p.tables e below (T.setTop g) target := by
  obtain ⟨cl, A, q⟩ := F
  subst hi
  exact X.laload hx (by rw [eT]; exact A.1) (State.isArrayOf_alike hZ.alike A.2.1) A.2.2 (own_in q h1 (own_lt hv)) (own_at q hv) hg hs hd
theorem own_ild (X : Stand p l e R s m args below meth c T locs cells slots) (hx : p.tables.exec = Jvm.exec) (hZ : Z.Warmed39 s.vm) (eT : T.heap = h) (F : own_L Z h a .int vs) {j : Int32} {i : Nat} (h1 : ¬ j < 0) (hi : j.toNatClampNeg = i) (hv : vs[i]? = some v) {g : JFrame} (hg : g.method = m) {rest : List Value} (hs : g.stack = .int j :: .ref a :: rest) (hd : decode c.code g.pc = .ok (.iaload, 1)) :
    ∀ target, Steps p.tables e below (T.setTop { g with pc := g.pc + 1, stack := v :: rest }) target → Steps p.tables e below (T.setTop g) target := by
  obtain ⟨cl, A, q⟩ := F
  subst hi
  exact X.iaload hx (by rw [eT]; exact A.1) (State.isArrayOf_alike hZ.alike A.2.1) A.2.2 (own_in q h1 (own_lt hv)) (own_at q hv) hg hs hd
theorem own_zld (X : Stand p l e R s m args below meth c T locs cells slots) (hx : p.tables.exec = Jvm.exec) (hZ : Z.Warmed39 s.vm) (eT : T.heap = h) (F : own_L Z h a .boolean vs) {j : Int32} {i : Nat} (h1 : ¬ j < 0) (hi : j.toNatClampNeg = i) (hv : vs[i]? = some v) {g : JFrame} (hg : g.method = m) {rest : List Value} (hs : g.stack = .int j :: .ref a :: rest) (hd : decode c.code g.pc = .ok (.baload, 1)) :
    ∀ target, Steps p.tables e below (T.setTop { g with pc := g.pc + 1, stack := v :: rest }) target → Steps p.tables e below (T.setTop g) target := by
  obtain ⟨cl, A, q⟩ := F
  subst hi
  exact X.baloadBooleans hx (by rw [eT]; exact A.1) (State.isArrayOf_alike hZ.alike A.2.1) A.2.2 (own_in q h1 (own_lt hv)) (own_at q hv) hg hs hd
theorem own_len (X : Stand p l e R s m args below meth c T locs cells slots) (hx : p.tables.exec = Jvm.exec) (hZ : Z.Warmed39 s.vm) (eT : T.heap = h) (F : own_L Z h a ty vs) {z : Int32} (hz : vs.length.toInt32 = z) {g : JFrame} (hg : g.method = m) {rest : List Value} (hs : g.stack = .ref a :: rest) (hd : decode c.code g.pc = .ok (.arraylength, 1)) :
    ∀ target, Steps p.tables e below (T.setTop { g with pc := g.pc + 1, stack := .int z :: rest }) target → Steps p.tables e below (T.setTop g) target := by
  obtain ⟨cl, A, q⟩ := F
  intro w k
  refine X.arraylength hx (by rw [eT]; exact A.1) (State.isArrayOf_alike hZ.alike A.2.1) hg hs hd w ?_
  have q2 : cl.slots.size.toInt32 = z := by rw [← hz, q]; simp
  rw [q2]; exact k
theorem own_bst (X : Stand p l e R s m args below meth c T locs cells slots) (hx : p.tables.exec = Jvm.exec) (hZ : Z.Warmed39 s.vm) (eT : T.heap = h) (F : own_L Z h a .byte vs) {j x : Int32} (i : Nat) (h1 : ¬ j < 0) (hi : j.toNatClampNeg = i) (h2 : i < vs.length) {g : JFrame} (hg : g.method = m) {rest : List Value} (hs : g.stack = .int x :: .int j :: .ref a :: rest) (hd : decode c.code g.pc = .ok (.bastore, 1)) :
    ∃ T' h', Stand p l e R s m args below meth c T' (locs ++ [⟨a, i⟩]) cells slots ∧ T'.heap = h' ∧ Wr h h' a i (.int x.toInt8.toInt32) ∧ own_L Z h' a .byte (vs.set i (.int x.toInt8.toInt32)) ∧ ∀ target, Steps p.tables e below (T'.setTop { g with pc := g.pc + 1, stack := rest }) target → Steps p.tables e below (T.setTop g) target := by
  obtain ⟨cl, A, q⟩ := F
  subst hi
  obtain ⟨T', h', X', e', W, st⟩ := stB X hx hZ eT A (own_in q h1 h2) hg hs hd
  exact ⟨T', h', X', e', W, own_L.same ⟨cl, A, q⟩ W, st⟩
theorem own_zst (X : Stand p l e R s m args below meth c T locs cells slots) (hx : p.tables.exec = Jvm.exec) (hZ : Z.Warmed39 s.vm) (eT : T.heap = h) (F : own_L Z h a .boolean vs) {j x : Int32} (i : Nat) (h1 : ¬ j < 0) (hi : j.toNatClampNeg = i) (h2 : i < vs.length) {g : JFrame} (hg : g.method = m) {rest : List Value} (hs : g.stack = .int x :: .int j :: .ref a :: rest) (hd : decode c.code g.pc = .ok (.bastore, 1)) :
    ∃ T' h', Stand p l e R s m args below meth c T' (locs ++ [⟨a, i⟩]) cells slots ∧ T'.heap = h' ∧ Wr h h' a i (.int (x &&& 1)) ∧ own_L Z h' a .boolean (vs.set i (.int (x &&& 1))) ∧ ∀ target, Steps p.tables e below (T'.setTop { g with pc := g.pc + 1, stack := rest }) target → Steps p.tables e below (T.setTop g) target := by
  obtain ⟨cl, A, q⟩ := F
  subst hi
  obtain ⟨T', h', X', e', W, st⟩ := stZ X hx hZ eT A (own_in q h1 h2) hg hs hd
  exact ⟨T', h', X', e', W, own_L.same ⟨cl, A, q⟩ W, st⟩
theorem own_jst (X : Stand p l e R s m args below meth c T locs cells slots) (hx : p.tables.exec = Jvm.exec) (hZ : Z.Warmed39 s.vm) (eT : T.heap = h) (F : own_L Z h a .long vs) {j : Int32} {x : Int64} (i : Nat) (h1 : ¬ j < 0) (hi : j.toNatClampNeg = i) (h2 : i < vs.length) {g : JFrame} (hg : g.method = m) {rest : List Value} (hs : g.stack = .long x :: .int j :: .ref a :: rest) (hd : decode c.code g.pc = .ok (.lastore, 1)) :
    ∃ T' h', Stand p l e R s m args below meth c T' (locs ++ [⟨a, i⟩]) cells slots ∧ T'.heap = h' ∧ Wr h h' a i (.long x) ∧ own_L Z h' a .long (vs.set i (.long x)) ∧ ∀ target, Steps p.tables e below (T'.setTop { g with pc := g.pc + 1, stack := rest }) target → Steps p.tables e below (T.setTop g) target := by
  obtain ⟨cl, A, q⟩ := F
  subst hi
  obtain ⟨T', h', X', e', W, st⟩ := stJ X hx hZ eT A (own_in q h1 h2) hg hs hd
  exact ⟨T', h', X', e', W, own_L.same ⟨cl, A, q⟩ W, st⟩
theorem own_ist (X : Stand p l e R s m args below meth c T locs cells slots) (hx : p.tables.exec = Jvm.exec) (hZ : Z.Warmed39 s.vm) (eT : T.heap = h) (F : own_L Z h a .int vs) {j x : Int32} (i : Nat) (h1 : ¬ j < 0) (hi : j.toNatClampNeg = i) (h2 : i < vs.length) {g : JFrame} (hg : g.method = m) {rest : List Value} (hs : g.stack = .int x :: .int j :: .ref a :: rest) (hd : decode c.code g.pc = .ok (.iastore, 1)) :
    ∃ T' h', Stand p l e R s m args below meth c T' (locs ++ [⟨a, i⟩]) cells slots ∧ T'.heap = h' ∧ Wr h h' a i (.int x) ∧ own_L Z h' a .int (vs.set i (.int x)) ∧ ∀ target, Steps p.tables e below (T'.setTop { g with pc := g.pc + 1, stack := rest }) target → Steps p.tables e below (T.setTop g) target := by
  obtain ⟨cl, A, q⟩ := F
  subst hi
  obtain ⟨T', h', X', e', W, st⟩ := stI X hx hZ eT A (own_in q h1 h2) hg hs hd
  exact ⟨T', h', X', e', W, own_L.same ⟨cl, A, q⟩ W, st⟩
theorem own_clone (X : Stand p l e R s m args below meth c T locs cells slots) (hx : p.tables.exec = Jvm.exec) (hZ : Z.Warmed39 s.vm) {a0 : Array Value} {own ad : String} {index : Nat} (hown : s.vm.findClass own = some m.cls)
    (w1 : (Cond.methodLink own index ⟨ad, "clone", "()Ljava/lang/Object;"⟩).before a0 Z = true) (w2 : (Cond.sameMethod ad "java/lang/Object" "clone" "()Ljava/lang/Object;").before a0 Z = true) (w3 : (Cond.native ⟨"java/lang/Object", "clone", "()Ljava/lang/Object;"⟩).before a0 Z = true)
    (w4 : (Cond.instanceMethod ⟨"java/lang/Object", "clone", "()Ljava/lang/Object;"⟩).before a0 Z = true) (w5 : (Cond.selects ad ⟨ad, "clone", "()Ljava/lang/Object;"⟩ ⟨"java/lang/Object", "clone", "()Ljava/lang/Object;"⟩).before a0 Z = true) (w6 : (Cond.castable ad "java/lang/Cloneable").before a0 Z = true)
    (eT : T.heap = h) (F : own_L Z h a ty vs) (E : Exa Z h a ad) (hfit : ∀ v ∈ vs, fits ty v = true) {g : JFrame} (hg : g.method = m) (hsize : g.locals.size = c.maxLocals) {rest : List Value} (hs : g.stack = .ref a :: rest) (hd : decode c.code g.pc = .ok (.invokevirtual index, 3))
    (hf : 1 ≤ R.frames) {W cap : Nat} (hW : 2 * g.monitorRoom + (rest.map fun v => v.category).sum ≤ W) (hl : W + 14 ≤ R.locals) (hcap : vs.length ≤ cap) (hc : cells + 1 ≤ R.cells) (hsl : slots + cap ≤ R.slots) :
    ∃ T' h', Stand p l e R s m args below meth c T' locs (cells + 1) (slots + cap) ∧ T'.heap = h' ∧ Ext h h' ∧ own_L Z h' h.size ty vs ∧ Exa Z h' h.size ad ∧
      ∀ target, Steps p.tables e below (T'.setTop { g with pc := g.pc + 3, stack := .ref h.size :: rest }) target → Steps p.tables e below (T.setTop g) target := by
  obtain ⟨cl, A, q⟩ := F
  have FC : FitC Z cl := fitC_of A fun i hi v hv => hfit v (by
    rw [q] at hv
    exact List.mem_of_getElem? (by simpa using hv))
  obtain ⟨T', h', X', e', ex, A', E', st⟩ := cloneA X hx hZ hown w1 w2 w3 w4 w5 w6 eT A E FC hg hsize hs hd hf hW hl (by rw [q]; simpa using hcap) hc hsl
  exact ⟨T', h', X', e', ex, ⟨cloneOf cl, A', q⟩, E', st⟩
end Own
theorem own_nn {i : Int32} {n : Nat} (h : i.toInt = n) : ¬ i < 0 := by
  have z0 : (0 : Int32).toInt = 0 := by decide
  rw [Int32.lt_iff_toInt_lt, z0]; omega
theorem own_nat {i : Int32} {n : Nat} (h : i.toInt = n) : i.toNatClampNeg = n := by
  show i.toInt.toNat = n
  omega
theorem own_up {i : Int32} {n : Nat} (h : i.toInt = n) (hn : n < 2147483647) : (i + (1 : Int32)).toInt = (n + 1 : Nat) := by
  have h1 := c_iadd i 1
  have r1 := rng32 (i + 1)
  have z1 : (1 : Int32).toInt = 1 := by decide
  rw [z1] at h1
  omega
theorem own_ltn {i j : Int32} {n k : Nat} (h : i.toInt = n) (h' : j.toInt = k) (hc : i < j) : n < k := by rw [Int32.lt_iff_toInt_lt] at hc; omega
theorem own_gen {i j : Int32} {n k : Nat} (h : i.toInt = n) (h' : j.toInt = k) (hc : ¬ i < j) : k - n = 0 := by rw [Int32.lt_iff_toInt_lt] at hc; omega
theorem own_of {i : Int32} {n : Nat} (h : i.toInt = n) : i = Int32.ofNat n := by
  have := rng32 i
  apply Int32.toInt_inj.mp
  rw [Int32.toInt_ofNat_of_lt (by omega)]; exact h
/-! a list of ints as an array's values -/
def own_bl (B : Nat → Int32) (n : Nat) : List Value := (List.range n).map fun j => .int (B j)
theorem own_bl_at (B : Nat → Int32) {n k : Nat} (hk : k < n) : (own_bl B n)[k]? = some (.int (B k)) := by simp [own_bl, hk]
theorem own_bl_len (B : Nat → Int32) (n : Nat) : (own_bl B n).length = n := by simp [own_bl]
theorem own_setfit {ty : FieldType} {vs : List Value} {w : Value} {i : Nat} (h : ∀ v ∈ vs, fits ty v = true) (hw : fits ty w = true) : ∀ v ∈ vs.set i w, fits ty v = true := fun v hv => by
  rcases List.mem_or_eq_of_mem_set hv with q | q
  · exact h v q
  · rw [q]; exact hw
theorem own_repfit (n : Nat) : ∀ v ∈ List.replicate n (Value.int 0), fits .byte v = true := fun v hv => by
  rw [List.eq_of_mem_replicate hv]; decide
theorem own_n127 (a : Int32) : (a &&& (127 : Int32)).toInt = ((a &&& (127 : Int32)).toInt.toNat : Nat) ∧ (a &&& (127 : Int32)).toInt.toNat ≤ 1010 := by
  have h := c_mask a 127 7 (by decide) (by decide)
  have : (2 ^ 7 : Nat) = 128 := rfl
  rw [this] at h
  omega
theorem own_n995 (a : Int32) : ((995 : Int32) + (a &&& (15 : Int32))).toInt = (((995 : Int32) + (a &&& (15 : Int32))).toInt.toNat : Nat) ∧ ((995 : Int32) + (a &&& (15 : Int32))).toInt.toNat ≤ 1010 := by
  have h := c_mask a 15 4 (by decide) (by decide)
  have : (2 ^ 4 : Nat) = 16 := rfl
  rw [this] at h
  have h1 := c_iadd 995 (a &&& 15)
  have r := rng32 (995 + (a &&& 15))
  have z : (995 : Int32).toInt = 995 := by decide
  rw [z] at h1
  omega
theorem own_posn {n3 : Int32} {nn : Nat} (h : n3.toInt = nn) (hc : (0 : Int32) < n3) : 0 < nn := by
  have z : (0 : Int32).toInt = 0 := by decide
  rw [Int32.lt_iff_toInt_lt, z] at hc
  omega
theorem own_pred {n3 : Int32} {nn : Nat} (h : n3.toInt = nn) (hc : (0 : Int32) < n3) : (n3 - (1 : Int32)).toInt = (nn - 1 : Nat) := by
  have h0 := own_posn h hc
  have h1 := c_isub n3 1
  have r := rng32 (n3 - 1)
  have r1 := rng32 n3
  have z : (1 : Int32).toInt = 1 := by decide
  rw [z] at h1
  omega
theorem own_lenz {n3 : Int32} {nn : Nat} (h : n3.toInt = nn) {vs : List Value} (hl : vs.length = nn) : vs.length.toInt32 = n3 := by
  rw [hl]; exact (own_of h).symm
theorem pn_0 : plainName "com/example/portunus/portunus/Atom" = true := by first | (simp [plainName, overriddenIn]; done) | decide +kernel
theorem d1_0 : decode prog_2_method_1_code 0 = .ok (.aload_n 0, 1) := by decide +kernel
theorem d1_1 : decode prog_2_method_1_code 1 = .ok (.invokespecial 1, 3) := by decide +kernel
theorem d1_4 : decode prog_2_method_1_code 4 = .ok (.aload_n 0, 1) := by decide +kernel
theorem d1_5 : decode prog_2_method_1_code 5 = .ok (.aload_n 1, 1) := by decide +kernel
theorem d1_6 : decode prog_2_method_1_code 6 = .ok (.invokevirtual 7, 3) := by decide +kernel
theorem d1_9 : decode prog_2_method_1_code 9 = .ok (.checkcast 8, 3) := by decide +kernel
theorem d1_12 : decode prog_2_method_1_code 12 = .ok (.putfield 13, 3) := by decide +kernel
theorem d1_15 : decode prog_2_method_1_code 15 = .ok (.return_, 1) := by decide +kernel
theorem ef_rm1 (m : MethodId) (d : Addr) (t1 : Addr) : entryFrame m #[(.ref d), (.ref t1)] 2 = mkF m 0 #[.val (.ref d), .val (.ref t1)] [] := by first | (simp [entryFrame, mkF, argsToLocals, Value.category]; done) | rfl
def Q1 (Z : State) (d : Addr) (t1 : Addr) (vs : List Value) (h0 : Heap) (n0 : Nat) (rv : Option Value) (hq : Heap) (Lq : List Loc) : Prop := rv = none ∧ Fr n0 Lq ∧ ∃ bb : Addr, Keep h0 hq [d] ∧ Exa Z hq d "com/example/portunus/portunus/Atom" ∧ Fld Z hq d "com/example/portunus/portunus/Atom" "bytes" "[B" (.ref bb) ∧ own_L Z hq bb .byte (vs)
set_option maxRecDepth 65536 in
set_option maxHeartbeats 40000000 in
theorem rm1 (l : Launch) (Z : State) (a0 : Array Value) (hw : ∀ d ∈ tables_1, d.before a0 Z = true) (ws : List Jvm.Cond) (d : Addr) (t1 : Addr) (vs : List Value) (h0 : Heap) (n0 : Nat) (Z0 : n0 ≤ h0.size) (F0_ : Exa Z h0 d "com/example/portunus/portunus/Atom") (F1_ : Fld Z h0 d "com/example/portunus/portunus/Atom" "bytes" "[B" .null) (F2_ : own_L Z h0 t1 .byte (vs)) (F3_ : Exa Z h0 t1 "[B") (ge_d : n0 ≤ d) (hcap : vs.length ≤ 1010) (hfit : ∀ v ∈ vs, fits .byte v = true) (hdt : d ≠ t1) :
    MetFree l (⟨"com/example/portunus/portunus/Atom", "<init>", "([B)V"⟩ : MethodName) (head1 (Jvm.Cond.code (⟨"com/example/portunus/portunus/Atom", "<init>", "([B)V"⟩ : MethodName) prog_2_method_1_code 2 none :: ws) ({ frames := 1, cells := 1, slots := 1010, locals := 15 } : Room)) (fun za U => za = #[(.ref d), (.ref t1)] ∧ Z.Warmed39 U.vm ∧ U.heap = h0) (fun _ _ _ _ _ => True) (fun _ U o U' => ∃ rv Lq, o = .returned rv ∧ Q1 Z d t1 vs h0 n0 rv U'.heap Lq ∧ FrameEnd U o U' Lq ({ frames := 1, cells := 1, slots := 1010, locals := 15 } : Room).cells ({ frames := 1, cells := 1, slots := 1010, locals := 15 } : Room).slots) := by
  refine MetFree.of_bodySF (plainFor_of_name pn_0) hisR ?_
  intro p e s m args below meth c s₁ Bd hml0 hP hK
  obtain ⟨rfl, hZ, hh⟩ := hP
  have hx := Bd.exec
  have hby := Bd.bytes
  have hml : c.maxLocals = 2 := hml0
  have hown : s.vm.findClass "com/example/portunus/portunus/Atom" = some m.cls := findClass_of_methodNamed Bd.named
  have hnm := (name_of_methodNamed Bd.named Bd.method).1
  have X0 : Stand p l e ({ frames := 1, cells := 1, slots := 1010, locals := 15 } : Room) s m #[(.ref d), (.ref t1)] below meth c s₁ [] 0 0 := Stand.of_body Bd
  have e0 : s₁.heap = h0 := by rw [← hh, Bd.state]; rfl
  have N0 := Fr.nil n0
  refine own_out (own_nm fun G hG => own_st (fun zt zk => castTop (ef_rm1 m d t1) zk) ?_)
  show own_Go p e below G (s₁.setTop (mkF m 0 #[.val (.ref d), .val (.ref t1)] []))
  refine own_st (fun zw zk => XS.aloadN X0.here hx rfl (hb hby d1_0) rfl rfl zk) ?_
  obtain ⟨T1, X1, e1, st1⟩ := initO X0 hx hZ hown (hw _ (List.mem_of_getElem? (i := 7) rfl)) (hw _ (List.mem_of_getElem? (i := 8) rfl)) (hw _ (List.mem_of_getElem? (i := 9) rfl)) e0 (g := (mkF m 1 #[.val (.ref d), .val (.ref t1)] [(.ref d)])) rfl (by rw [hml]; rfl) rfl (hb hby d1_1) (by decide) (W := 0) (by show 2 * 0 + _ ≤ _; exact Nat.le_of_eq rfl) (by decide)
  refine own_st (fun zw zk => st1 zw zk) ?_
  refine own_st (fun zw zk => XS.aloadN X1.here hx rfl (hb hby d1_4) rfl rfl zk) ?_
  refine own_st (fun zw zk => XS.aloadN X1.here hx rfl (hb hby d1_5) rfl rfl zk) ?_
  obtain ⟨T2, h2, X2, e2, E2, V2, A2, st2⟩ := own_clone X1 hx hZ hown (hw _ (List.mem_of_getElem? (i := 10) rfl)) (hw _ (List.mem_of_getElem? (i := 11) rfl)) (hw _ (List.mem_of_getElem? (i := 15) rfl)) (hw _ (List.mem_of_getElem? (i := 13) rfl)) (hw _ (List.mem_of_getElem? (i := 14) rfl)) (hw _ (List.mem_of_getElem? (i := 16) rfl)) e1 F2_ F3_ hfit (g := (mkF m 6 #[.val (.ref d), .val (.ref t1)] [(.ref t1), (.ref d)])) rfl (by rw [hml]; rfl) rfl (hb hby d1_6) (by decide) (W := 1) (cap := 1010) (by show 2 * 0 + _ ≤ _; exact Nat.le_of_eq rfl) (by decide) hcap (by decide) (by decide)
  obtain ⟨b2, g2⟩ : ∃ z, z = h0.size := ⟨_, rfl⟩
  rw [← g2] at V2 A2 st2
  have G2 : n0 ≤ b2 := Nat.le_trans Z0 (Nat.le_of_eq g2.symm)
  have ne_d_b2 : d ≠ b2 := Nat.ne_of_lt (Nat.lt_of_lt_of_le F0_.lt (Nat.le_of_eq g2.symm))
  have ne_t1_b2 : t1 ≠ b2 := Nat.ne_of_lt (Nat.lt_of_lt_of_le F2_.lt (Nat.le_of_eq g2.symm))
  have F0_2 := F0_.ext E2
  have F1_2 := F1_.ext E2
  have F2_2 := F2_.ext E2
  have F3_2 := F3_.ext E2
  have Z2 : n0 ≤ h2.size := Nat.le_trans Z0 E2.1
  have sz2 : h0.size ≤ b2 := Nat.le_trans (Keep.refl h0 [d]).1 (Nat.le_of_eq g2.symm)
  have Kp2 := (Keep.refl h0 [d]).ext E2
  refine own_st (fun zw zk => st2 zw zk) ?_
  obtain ⟨T3, X3, e3, st3⟩ := castY X2 hx hZ hown (hw _ (List.mem_of_getElem? (i := 17) rfl)) e2 (Ins.self A2) (g := (mkF m 9 #[.val (.ref d), .val (.ref t1)] [(.ref b2), (.ref d)])) rfl rfl (hb hby d1_9)
  refine own_st (fun zw zk => st3 zw zk) ?_
  obtain ⟨T4, h4, X4, e4, W4, st4⟩ := putF X3 hx hZ hown (host := "") (Or.inl (hw _ (List.mem_of_getElem? (i := 19) rfl))) Via.refl e3 F1_2 F0_2 (Or.inr ⟨(hw _ (List.mem_of_getElem? (i := 20) rfl)), rfl, hnm⟩) (hw _ (List.mem_of_getElem? (i := 2) rfl)) (ty := (.array .byte)) (by decide) rfl rfl (g := (mkF m 12 #[.val (.ref d), .val (.ref t1)] [(.ref b2), (.ref d)])) rfl rfl (hb hby d1_12)
  have F1_4 := F1_2.same W4
  have N4 := Fr.snoc X4 N0 ge_d
  refine own_st (fun zw zk => st4 zw zk) ?_
  have F0_4 := F0_2.wr W4
  have F2_4 := F2_2.other W4 (Ne.symm hdt)
  have F3_4 := F3_2.wr W4
  have Vb2_4 := V2.other W4 (Ne.symm ne_d_b2)
  have Ab2_4 := A2.wr W4
  have Z4 : n0 ≤ h4.size := Nat.le_trans Z2 (Keep.of_wr W4).1
  have Kp4 := Kp2.wr W4 (Or.inl (List.mem_of_getElem? (i := 0) rfl))
  subst hG
  obtain ⟨fs, hr, hrun, hended, hW, hsame⟩ := X4.leave (v := none) (fun _ => rfl)
  refine ⟨_, X4.returnOut hx Bd.returns (hb hby d1_15) hr, _, hrun, hended, _, _, rfl, ?_, ⟨_, rfl⟩, hW, hsame.mono (by decide) (by decide)⟩
  show Q1 Z d t1 vs h0 n0 _ T4.heap _
  rw [e4]
  exact ⟨rfl, N4, b2, Kp4, F0_4, F1_4, Vb2_4⟩
theorem own_div {x : Int32} (h0 : 0 ≤ x.toInt) : (x / (10 : Int32)).toInt = x.toInt / 10 := (c_idiv x 10 10 (by decide) (by decide)).1 h0
theorem own_d3 {x : Int32} (h0 : 0 ≤ x.toInt) (hb : x.toInt ≤ 1010) : (((x / (10 : Int32)) / (10 : Int32)) / (10 : Int32)) < (10 : Int32) := by
  have a := own_div h0
  have b := own_div (x := x / 10) (by omega)
  have c := own_div (x := x / 10 / 10) (by omega)
  have z : (10 : Int32).toInt = 10 := by decide
  rw [Int32.lt_iff_toInt_lt, z]
  omega
theorem d4_0 : decode prog_2_method_14_code 0 = .ok (.iconst 1, 1) := by decide +kernel
theorem d4_1 : decode prog_2_method_14_code 1 = .ok (.istore_n 1, 1) := by decide +kernel
theorem d4_2 : decode prog_2_method_14_code 2 = .ok (.iload_n 0, 1) := by decide +kernel
theorem d4_3 : decode prog_2_method_14_code 3 = .ok (.istore_n 2, 1) := by decide +kernel
theorem d4_4 : decode prog_2_method_14_code 4 = .ok (.iload_n 2, 1) := by decide +kernel
theorem d4_5 : decode prog_2_method_14_code 5 = .ok (.bipush 10, 2) := by decide +kernel
theorem d4_7 : decode prog_2_method_14_code 7 = .ok (.if_icmp .lt 14, 3) := by decide +kernel
theorem d4_10 : decode prog_2_method_14_code 10 = .ok (.iinc 1 1, 3) := by decide +kernel
theorem d4_13 : decode prog_2_method_14_code 13 = .ok (.iload_n 2, 1) := by decide +kernel
theorem d4_14 : decode prog_2_method_14_code 14 = .ok (.bipush 10, 2) := by decide +kernel
theorem d4_16 : decode prog_2_method_14_code 16 = .ok (.idiv, 1) := by decide +kernel
theorem d4_17 : decode prog_2_method_14_code 17 = .ok (.istore_n 2, 1) := by decide +kernel
theorem d4_18 : decode prog_2_method_14_code 18 = .ok (.goto (-14), 3) := by decide +kernel
theorem d4_21 : decode prog_2_method_14_code 21 = .ok (.iload_n 1, 1) := by decide +kernel
theorem d4_22 : decode prog_2_method_14_code 22 = .ok (.ireturn, 1) := by decide +kernel
theorem ef_rm4 (m : MethodId) (u : Int32) : entryFrame m #[(.int u)] 3 = mkF m 0 #[.val (.int u), .unset, .unset] [] := by first | (simp [entryFrame, mkF, argsToLocals, Value.category]; done) | rfl
def own_dg (u : Int32) : Int32 := (if u < (10 : Int32) then (1 : Int32) else (if (u / (10 : Int32)) < (10 : Int32) then (2 : Int32) else (if ((u / (10 : Int32)) / (10 : Int32)) < (10 : Int32) then (3 : Int32) else (4 : Int32))))
def Q4 (Z : State) (u : Int32) (h0 : Heap) (n0 : Nat) (rv : Option Value) (hq : Heap) (Lq : List Loc) : Prop := rv = some (.int (own_dg u)) ∧ Fr n0 Lq ∧ hq = h0
set_option maxRecDepth 65536 in
set_option maxHeartbeats 40000000 in
theorem rm4 (l : Launch) (Z : State) (a0 : Array Value) (hw : ∀ d ∈ tables_1, d.before a0 Z = true) (ws : List Jvm.Cond) (u : Int32) (h0 : Heap) (n0 : Nat) (Z0 : n0 ≤ h0.size) (hu9 : u.toInt ≤ 1010) (hz9 : 0 ≤ u.toInt) :
    MetFree l (⟨"com/example/portunus/portunus/Atom", "digits", "(I)I"⟩ : MethodName) (head1 (Jvm.Cond.code (⟨"com/example/portunus/portunus/Atom", "digits", "(I)I"⟩ : MethodName) prog_2_method_14_code 3 (some .int) :: ws) ({ frames := 0, cells := 0, slots := 0, locals := 0 } : Room)) (fun za U => za = #[(.int u)] ∧ Z.Warmed39 U.vm ∧ U.heap = h0) (fun _ _ _ _ _ => True) (fun _ U o U' => ∃ rv Lq, o = .returned rv ∧ Q4 Z u h0 n0 rv U'.heap Lq ∧ FrameEnd U o U' Lq ({ frames := 0, cells := 0, slots := 0, locals := 0 } : Room).cells ({ frames := 0, cells := 0, slots := 0, locals := 0 } : Room).slots) := by
  refine MetFree.of_bodySF (plainFor_of_name pn_0) hisR ?_
  intro p e s m args below meth c s₁ Bd hml0 hP hK
  obtain ⟨rfl, hZ, hh⟩ := hP
  have hx := Bd.exec
  have hby := Bd.bytes
  have hml : c.maxLocals = 3 := hml0
  have hown : s.vm.findClass "com/example/portunus/portunus/Atom" = some m.cls := findClass_of_methodNamed Bd.named
  have hnm := (name_of_methodNamed Bd.named Bd.method).1
  have X0 : Stand p l e ({ frames := 0, cells := 0, slots := 0, locals := 0 } : Room) s m #[(.int u)] below meth c s₁ [] 0 0 := Stand.of_body Bd
  have e0 : s₁.heap = h0 := by rw [← hh, Bd.state]; rfl
  have N0 := Fr.nil n0
  refine own_out (own_nm fun G hG => own_st (fun zt zk => castTop (ef_rm4 m u) zk) ?_)
  show own_Go p e below G (s₁.setTop (mkF m 0 #[.val (.int u), .unset, .unset] []))
  refine own_st (fun zw zk => XS.iconst X0.here hx rfl (hb hby d4_0) zk) ?_
  refine own_st (fun zw zk => XS.istoreN X0.here hx rfl (hb hby d4_1) rfl rfl zk) ?_
  show own_Go p e below G (s₁.setTop (mkF m 2 #[.val (.int u), .val (.int (1 : Int32)), .unset] []))
  refine own_st (fun zw zk => XS.iloadN X0.here hx rfl (hb hby d4_2) rfl zk) ?_
  refine own_st (fun zw zk => XS.istoreN X0.here hx rfl (hb hby d4_3) rfl rfl zk) ?_
  show own_Go p e below G (s₁.setTop (mkF m 4 #[.val (.int u), .val (.int (1 : Int32)), .val (.int u)] []))
  refine own_st (fun zw zk => XS.iloadN X0.here hx rfl (hb hby d4_4) rfl zk) ?_
  refine own_st (fun zw zk => XS.bipush X0.here hx rfl (hb hby d4_5) zk) ?_
  by_cases hc7 : u < (10 : Int32)
  · refine own_st (fun zw zk => XS.icmpYes X0.here hx rfl (pc0 := 7) (pc' := 21) rfl (hb hby d4_7) rfl (tlt hc7).1 (by decide) (by decide) zk) ?_
    refine own_st (fun zw zk => XS.iloadN X0.here hx rfl (hb hby d4_21) rfl zk) ?_
    subst hG
    obtain ⟨fs, hr, hrun, hended, hW, hsame⟩ := X0.leave (v := some (.int (1 : Int32))) (fun h => by rw [Bd.returns] at h; cases h)
    refine ⟨_, own_retI X0 hx Bd.returns (hb hby d4_22) hr, _, hrun, hended, _, _, rfl, ?_, ⟨_, rfl⟩, hW, hsame.mono (by decide) (by decide)⟩
    show Q4 Z u h0 n0 _ s₁.heap _
    rw [e0]
    exact ⟨by unfold own_dg; rw [if_pos hc7], N0, rfl⟩
  · refine own_st (fun zw zk => XS.icmpNo X0.here hx rfl (hb hby d4_7) rfl (flt hc7).1 zk) ?_
    refine own_st (fun zw zk => XS.iinc X0.here hx rfl (hb hby d4_10) rfl rfl zk) ?_
    show own_Go p e below G (s₁.setTop (mkF m 13 #[.val (.int u), .val (.int (2 : Int32)), .val (.int u)] []))
    refine own_st (fun zw zk => XS.iloadN X0.here hx rfl (hb hby d4_13) rfl zk) ?_
    refine own_st (fun zw zk => XS.bipush X0.here hx rfl (hb hby d4_14) zk) ?_
    refine own_st (fun zw zk => XS.idiv X0.here hx rfl (hb hby d4_16) rfl (by decide) zk) ?_
    refine own_st (fun zw zk => XS.istoreN X0.here hx rfl (hb hby d4_17) rfl rfl zk) ?_
    show own_Go p e below G (s₁.setTop (mkF m 18 #[.val (.int u), .val (.int (2 : Int32)), .val (.int (u / (10 : Int32)))] []))
    refine own_st (fun zw zk => XS.goto X0.here hx rfl (pc0 := 18) (pc' := 4) rfl (hb hby d4_18) (by decide) (by decide) zk) ?_
    show own_Go p e below G (s₁.setTop (mkF m 4 #[.val (.int u), .val (.int (2 : Int32)), .val (.int (u / (10 : Int32)))] []))
    refine own_st (fun zw zk => XS.iloadN X0.here hx rfl (hb hby d4_4) rfl zk) ?_
    refine own_st (fun zw zk => XS.bipush X0.here hx rfl (hb hby d4_5) zk) ?_
    by_cases hc7_1 : (u / (10 : Int32)) < (10 : Int32)
    · refine own_st (fun zw zk => XS.icmpYes X0.here hx rfl (pc0 := 7) (pc' := 21) rfl (hb hby d4_7) rfl (tlt hc7_1).1 (by decide) (by decide) zk) ?_
      refine own_st (fun zw zk => XS.iloadN X0.here hx rfl (hb hby d4_21) rfl zk) ?_
      subst hG
      obtain ⟨fs, hr, hrun, hended, hW, hsame⟩ := X0.leave (v := some (.int (2 : Int32))) (fun h => by rw [Bd.returns] at h; cases h)
      refine ⟨_, own_retI X0 hx Bd.returns (hb hby d4_22) hr, _, hrun, hended, _, _, rfl, ?_, ⟨_, rfl⟩, hW, hsame.mono (by decide) (by decide)⟩
      show Q4 Z u h0 n0 _ s₁.heap _
      rw [e0]
      exact ⟨by unfold own_dg; rw [if_neg hc7, if_pos hc7_1], N0, rfl⟩
    · refine own_st (fun zw zk => XS.icmpNo X0.here hx rfl (hb hby d4_7) rfl (flt hc7_1).1 zk) ?_
      refine own_st (fun zw zk => XS.iinc X0.here hx rfl (hb hby d4_10) rfl rfl zk) ?_
      show own_Go p e below G (s₁.setTop (mkF m 13 #[.val (.int u), .val (.int (3 : Int32)), .val (.int (u / (10 : Int32)))] []))
      refine own_st (fun zw zk => XS.iloadN X0.here hx rfl (hb hby d4_13) rfl zk) ?_
      refine own_st (fun zw zk => XS.bipush X0.here hx rfl (hb hby d4_14) zk) ?_
      refine own_st (fun zw zk => XS.idiv X0.here hx rfl (hb hby d4_16) rfl (by decide) zk) ?_
      refine own_st (fun zw zk => XS.istoreN X0.here hx rfl (hb hby d4_17) rfl rfl zk) ?_
      show own_Go p e below G (s₁.setTop (mkF m 18 #[.val (.int u), .val (.int (3 : Int32)), .val (.int ((u / (10 : Int32)) / (10 : Int32)))] []))
      refine own_st (fun zw zk => XS.goto X0.here hx rfl (pc0 := 18) (pc' := 4) rfl (hb hby d4_18) (by decide) (by decide) zk) ?_
      show own_Go p e below G (s₁.setTop (mkF m 4 #[.val (.int u), .val (.int (3 : Int32)), .val (.int ((u / (10 : Int32)) / (10 : Int32)))] []))
      refine own_st (fun zw zk => XS.iloadN X0.here hx rfl (hb hby d4_4) rfl zk) ?_
      refine own_st (fun zw zk => XS.bipush X0.here hx rfl (hb hby d4_5) zk) ?_
      by_cases hc7_2 : ((u / (10 : Int32)) / (10 : Int32)) < (10 : Int32)
      · refine own_st (fun zw zk => XS.icmpYes X0.here hx rfl (pc0 := 7) (pc' := 21) rfl (hb hby d4_7) rfl (tlt hc7_2).1 (by decide) (by decide) zk) ?_
        refine own_st (fun zw zk => XS.iloadN X0.here hx rfl (hb hby d4_21) rfl zk) ?_
        subst hG
        obtain ⟨fs, hr, hrun, hended, hW, hsame⟩ := X0.leave (v := some (.int (3 : Int32))) (fun h => by rw [Bd.returns] at h; cases h)
        refine ⟨_, own_retI X0 hx Bd.returns (hb hby d4_22) hr, _, hrun, hended, _, _, rfl, ?_, ⟨_, rfl⟩, hW, hsame.mono (by decide) (by decide)⟩
        show Q4 Z u h0 n0 _ s₁.heap _
        rw [e0]
        exact ⟨by unfold own_dg; rw [if_neg hc7, if_neg hc7_1, if_pos hc7_2], N0, rfl⟩
      · refine own_st (fun zw zk => XS.icmpNo X0.here hx rfl (hb hby d4_7) rfl (flt hc7_2).1 zk) ?_
        refine own_st (fun zw zk => XS.iinc X0.here hx rfl (hb hby d4_10) rfl rfl zk) ?_
        show own_Go p e below G (s₁.setTop (mkF m 13 #[.val (.int u), .val (.int (4 : Int32)), .val (.int ((u / (10 : Int32)) / (10 : Int32)))] []))
        refine own_st (fun zw zk => XS.iloadN X0.here hx rfl (hb hby d4_13) rfl zk) ?_
        refine own_st (fun zw zk => XS.bipush X0.here hx rfl (hb hby d4_14) zk) ?_
        refine own_st (fun zw zk => XS.idiv X0.here hx rfl (hb hby d4_16) rfl (by decide) zk) ?_
        refine own_st (fun zw zk => XS.istoreN X0.here hx rfl (hb hby d4_17) rfl rfl zk) ?_
        show own_Go p e below G (s₁.setTop (mkF m 18 #[.val (.int u), .val (.int (4 : Int32)), .val (.int (((u / (10 : Int32)) / (10 : Int32)) / (10 : Int32)))] []))
        refine own_st (fun zw zk => XS.goto X0.here hx rfl (pc0 := 18) (pc' := 4) rfl (hb hby d4_18) (by decide) (by decide) zk) ?_
        show own_Go p e below G (s₁.setTop (mkF m 4 #[.val (.int u), .val (.int (4 : Int32)), .val (.int (((u / (10 : Int32)) / (10 : Int32)) / (10 : Int32)))] []))
        refine own_st (fun zw zk => XS.iloadN X0.here hx rfl (hb hby d4_4) rfl zk) ?_
        refine own_st (fun zw zk => XS.bipush X0.here hx rfl (hb hby d4_5) zk) ?_
        have hc7_3 : (((u / (10 : Int32)) / (10 : Int32)) / (10 : Int32)) < (10 : Int32) := own_d3 hz9 hu9
        refine own_st (fun zw zk => XS.icmpYes X0.here hx rfl (pc0 := 7) (pc' := 21) rfl (hb hby d4_7) rfl (tlt hc7_3).1 (by decide) (by decide) zk) ?_
        refine own_st (fun zw zk => XS.iloadN X0.here hx rfl (hb hby d4_21) rfl zk) ?_
        subst hG
        obtain ⟨fs, hr, hrun, hended, hW, hsame⟩ := X0.leave (v := some (.int (4 : Int32))) (fun h => by rw [Bd.returns] at h; cases h)
        refine ⟨_, own_retI X0 hx Bd.returns (hb hby d4_22) hr, _, hrun, hended, _, _, rfl, ?_, ⟨_, rfl⟩, hW, hsame.mono (by decide) (by decide)⟩
        show Q4 Z u h0 n0 _ s₁.heap _
        rw [e0]
        exact ⟨by unfold own_dg; rw [if_neg hc7, if_neg hc7_1, if_neg hc7_2], N0, rfl⟩
theorem pd_0 : parseMethodDescriptor "(I)I" = some ⟨[.int], some .int⟩ := by decide +kernel
theorem d3_0 : decode prog_2_method_7_code 0 = .ok (.aload_n 0, 1) := by decide +kernel
theorem d3_1 : decode prog_2_method_7_code 1 = .ok (.getfield 13, 3) := by decide +kernel
theorem d3_4 : decode prog_2_method_7_code 4 = .ok (.arraylength, 1) := by decide +kernel
theorem d3_5 : decode prog_2_method_7_code 5 = .ok (.invokestatic 45, 3) := by decide +kernel
theorem d3_8 : decode prog_2_method_7_code 8 = .ok (.iconst 1, 1) := by decide +kernel
theorem d3_9 : decode prog_2_method_7_code 9 = .ok (.iadd, 1) := by decide +kernel
theorem d3_10 : decode prog_2_method_7_code 10 = .ok (.aload_n 0, 1) := by decide +kernel
theorem d3_11 : decode prog_2_method_7_code 11 = .ok (.getfield 13, 3) := by decide +kernel
theorem d3_14 : decode prog_2_method_7_code 14 = .ok (.arraylength, 1) := by decide +kernel
theorem d3_15 : decode prog_2_method_7_code 15 = .ok (.iadd, 1) := by decide +kernel
theorem d3_16 : decode prog_2_method_7_code 16 = .ok (.ireturn, 1) := by decide +kernel
theorem ef_rm3 (m : MethodId) (d : Addr) : entryFrame m #[(.ref d)] 1 = mkF m 0 #[.val (.ref d)] [] := by first | (simp [entryFrame, mkF, argsToLocals, Value.category]; done) | rfl
def own_cl (nz : Int32) : Int32 := (((own_dg nz) + (1 : Int32)) + nz)
def Q3 (Z : State) (d : Addr) (t : Addr) (vs : List Value) (nz : Int32) (h0 : Heap) (n0 : Nat) (rv : Option Value) (hq : Heap) (Lq : List Loc) : Prop := rv = some (.int (own_cl nz)) ∧ Fr n0 Lq ∧ hq = h0
set_option maxRecDepth 65536 in
set_option maxHeartbeats 40000000 in
theorem rm3 (l : Launch) (Z : State) (a0 : Array Value) (hw : ∀ d ∈ tables_1, d.before a0 Z = true) (ws : List Jvm.Cond) (d : Addr) (t : Addr) (vs : List Value) (nz : Int32) (h0 : Heap) (n0 : Nat) (Z0 : n0 ≤ h0.size) (F0_ : Fld Z h0 d "com/example/portunus/portunus/Atom" "bytes" "[B" (.ref t)) (F1_ : own_L Z h0 t .byte (vs)) (hlz : vs.length.toInt32 = nz) (hu9 : nz.toInt ≤ 1010) (hz9 : 0 ≤ nz.toInt) :
    MetFree l (⟨"com/example/portunus/portunus/Atom", "canonicalLength", "()I"⟩ : MethodName) (head1 (Jvm.Cond.code (⟨"com/example/portunus/portunus/Atom", "canonicalLength", "()I"⟩ : MethodName) prog_2_method_7_code 1 (some .int) :: ws) ({ frames := 1, cells := 0, slots := 0, locals := 14 } : Room)) (fun za U => za = #[(.ref d)] ∧ Z.Warmed39 U.vm ∧ U.heap = h0) (fun _ _ _ _ _ => True) (fun _ U o U' => ∃ rv Lq, o = .returned rv ∧ Q3 Z d t vs nz h0 n0 rv U'.heap Lq ∧ FrameEnd U o U' Lq ({ frames := 1, cells := 0, slots := 0, locals := 14 } : Room).cells ({ frames := 1, cells := 0, slots := 0, locals := 14 } : Room).slots) := by
  refine MetFree.of_bodySF (plainFor_of_name pn_0) hisR ?_
  intro p e s m args below meth c s₁ Bd hml0 hP hK
  obtain ⟨rfl, hZ, hh⟩ := hP
  have hx := Bd.exec
  have hby := Bd.bytes
  have hml : c.maxLocals = 1 := hml0
  have hown : s.vm.findClass "com/example/portunus/portunus/Atom" = some m.cls := findClass_of_methodNamed Bd.named
  have hnm := (name_of_methodNamed Bd.named Bd.method).1
  have X0 : Stand p l e ({ frames := 1, cells := 0, slots := 0, locals := 14 } : Room) s m #[(.ref d)] below meth c s₁ [] 0 0 := Stand.of_body Bd
  have e0 : s₁.heap = h0 := by rw [← hh, Bd.state]; rfl
  have N0 := Fr.nil n0
  refine own_out (own_nm fun G hG => own_st (fun zt zk => castTop (ef_rm3 m d) zk) ?_)
  show own_Go p e below G (s₁.setTop (mkF m 0 #[.val (.ref d)] []))
  refine own_st (fun zw zk => XS.aloadN X0.here hx rfl (hb hby d3_0) rfl rfl zk) ?_
  obtain ⟨T5, X5, e5, st5⟩ := getF X0 hx hZ hown (host := "") (Or.inl (hw _ (List.mem_of_getElem? (i := 19) rfl))) Via.refl e0 F0_ (g := (mkF m 1 #[.val (.ref d)] [(.ref d)])) rfl rfl (hb hby d3_1)
  refine own_st (fun zw zk => st5 zw zk) ?_
  refine own_st (fun zw zk => own_len X5 hx hZ e5 F1_ (z := nz) (hlz) (g := (mkF m 4 #[.val (.ref d)] [(.ref t)])) rfl rfl (hb hby d3_4) _ zk) ?_
  obtain ⟨_, _, ⟨T6, L6, k6, n6⟩, -, X6, ⟨Lc6, hQ6, l6, y6, z6⟩, st6⟩ := Jvm.LawKit.callS X5 hx (y := (⟨"com/example/portunus/portunus/Atom", "digits", "(I)I"⟩ : MethodName)) hown (mvT hZ (hw _ (List.mem_of_getElem? (i := 26) rfl))) (mvT hZ (hw _ (List.mem_of_getElem? (i := 27) rfl))) (mvT hZ (hw _ (List.mem_of_getElem? (i := 3) rfl))) (mvT hZ (hw _ (List.mem_of_getElem? (i := 28) rfl))) (by decide) (backOf (W := 0) (rm4 l Z a0 hw [] nz h0 n0 Z0 (hu9) (hz9)) hZ (hw _ (List.mem_of_getElem? (i := 28) rfl)) (hw _ (List.mem_of_getElem? (i := 3) rfl)) (by decide) (by decide)) (g := (mkF m 5 #[.val (.ref d)] [(.int nz)])) rfl (by rw [hml]; rfl) (argsL := [(.int nz)]) (rest := []) (lenOf pd_0 rfl) rfl (by show 2 * 0 + _ ≤ _; exact Nat.le_of_eq rfl) (hb hby d3_5) (fun _ _ => ⟨rfl, e5, (by decide : 0 + 0 ≤ _), (by decide : 0 + 0 ≤ _)⟩)
  dsimp only [Pt.U, Pt.locs, Pt.cells, Pt.slots] at X6 l6 y6 z6 st6 hQ6
  subst l6 y6 z6
  obtain ⟨rfl, N6q, e6⟩ := hQ6
  have N6 := Fr.app N0 N6q
  refine own_st (fun zw zk => st6 zw zk) ?_
  refine own_st (fun zw zk => XS.iconst X6.here hx rfl (hb hby d3_8) zk) ?_
  refine own_st (fun zw zk => XS.iadd X6.here hx rfl (hb hby d3_9) rfl zk) ?_
  refine own_st (fun zw zk => XS.aloadN X6.here hx rfl (hb hby d3_10) rfl rfl zk) ?_
  obtain ⟨T7, X7, e7, st7⟩ := getF X6 hx hZ hown (host := "") (Or.inl (hw _ (List.mem_of_getElem? (i := 19) rfl))) Via.refl e6 F0_ (g := (mkF m 11 #[.val (.ref d)] [(.ref d), (.int ((own_dg nz) + (1 : Int32)))])) rfl rfl (hb hby d3_11)
  refine own_st (fun zw zk => st7 zw zk) ?_
  show own_Go p e below G (T7.setTop (mkF m 14 #[.val (.ref d)] [(.ref t), (.int ((own_dg nz) + (1 : Int32)))]))
  refine own_st (fun zw zk => own_len X7 hx hZ e7 F1_ (z := nz) (hlz) (g := (mkF m 14 #[.val (.ref d)] [(.ref t), (.int ((own_dg nz) + (1 : Int32)))])) rfl rfl (hb hby d3_14) _ zk) ?_
  refine own_st (fun zw zk => XS.iadd X7.here hx rfl (hb hby d3_15) rfl zk) ?_
  subst hG
  obtain ⟨fs, hr, hrun, hended, hW, hsame⟩ := X7.leave (v := some (.int (((own_dg nz) + (1 : Int32)) + nz))) (fun h => by rw [Bd.returns] at h; cases h)
  refine ⟨_, own_retI X7 hx Bd.returns (hb hby d3_16) hr, _, hrun, hended, _, _, rfl, ?_, ⟨_, rfl⟩, hW, hsame.mono (by decide) (by decide)⟩
  show Q3 Z d t vs nz h0 n0 _ T7.heap _
  rw [e7]
  exact ⟨rfl, N6, rfl⟩
theorem own_law {n : Int32} {nn : Nat} (h : n.toInt = nn) (hb : nn ≤ 1010) : own_cl n = (if n < (10 : Int32) then (2 : Int32) else if n < (100 : Int32) then (3 : Int32) else if n < (1000 : Int32) then (4 : Int32) else (5 : Int32)) + n := by
  have a := own_div (x := n) (by omega)
  have b := own_div (x := n / 10) (by omega)
  have z1 : (10 : Int32).toInt = 10 := by decide
  have z2 : (100 : Int32).toInt = 100 := by decide
  have z3 : (1000 : Int32).toInt = 1000 := by decide
  have k2 : (n / (10 : Int32) < (10 : Int32)) ↔ (n < (100 : Int32)) := by simp only [Int32.lt_iff_toInt_lt, z1, z2, a]; omega
  have k3 : (n / (10 : Int32) / (10 : Int32) < (10 : Int32)) ↔ (n < (1000 : Int32)) := by simp only [Int32.lt_iff_toInt_lt, z1, z3, b, a]; omega
  unfold own_cl own_dg
  by_cases h1 : n < (10 : Int32)
  · rw [if_pos h1, if_pos h1]; rfl
  · rw [if_neg h1, if_neg h1]
    by_cases h2 : n < (100 : Int32)
    · rw [if_pos (k2.mpr h2), if_pos h2]; rfl
    · rw [if_neg (fun q => h2 (k2.mp q)), if_neg h2]
      by_cases h3 : n < (1000 : Int32)
      · rw [if_pos (k3.mpr h3), if_pos h3]; rfl
      · rw [if_neg (fun q => h3 (k3.mp q)), if_neg h3]; rfl
theorem pd_1 : parseMethodDescriptor "([B)V" = some ⟨[(.array .byte)], none⟩ := by decide +kernel
theorem pd_2 : parseMethodDescriptor "()I" = some ⟨[], some .int⟩ := by decide +kernel
theorem pn_1 : plainName "com/example/portunus/portunus/AtomCanonicalLengthPinLaw" = true := by first | (simp [plainName, overriddenIn]; done) | decide +kernel
theorem ef_rm0 (m : MethodId) (p0 : Int32) (p1 : Int32) (p2 : Int32) : entryFrame m #[(.int p0), (.int p1), (.int p2)] maxLocals = mkF m 0 #[.val (.int p0), .val (.int p1), .val (.int p2), .unset, .unset, .unset, .unset] [] := by first | (simp [entryFrame, mkF, argsToLocals, Value.category, maxLocals]; done) | rfl
def Q0 (Z : State) (p0 : Int32) (p1 : Int32) (p2 : Int32) (h0 : Heap) (n0 : Nat) (rv : Option Value) (hq : Heap) (Lq : List Loc) : Prop := rv = some (.int 1) ∧ Fr n0 Lq
set_option maxRecDepth 65536 in
set_option maxHeartbeats 40000000 in
theorem rm0 (l : Launch) (Z : State) (a0 : Array Value) (hw : ∀ d ∈ tables_1, d.before a0 Z = true) (ws : List Jvm.Cond) (p0 : Int32) (p1 : Int32) (p2 : Int32) (h0 : Heap) (n0 : Nat) (Z0 : n0 ≤ h0.size) :
    MetFree l x (head1 (Jvm.Cond.code x code maxLocals ret :: ws) room_1) (fun za U => za = #[(.int p0), (.int p1), (.int p2)] ∧ Z.Warmed39 U.vm ∧ U.heap = h0) (fun _ _ _ _ _ => True) (fun _ U o U' => ∃ rv Lq, o = .returned rv ∧ Q0 Z p0 p1 p2 h0 n0 rv U'.heap Lq ∧ FrameEnd U o U' Lq room_1.cells room_1.slots) := by
  refine MetFree.of_bodySF (plainFor_of_name pn_1) hisR ?_
  intro p e s m args below meth c s₁ Bd hml0 hP hK
  obtain ⟨rfl, hZ, hh⟩ := hP
  have hx := Bd.exec
  have hby := Bd.bytes
  have hml : c.maxLocals = 7 := hml0
  have hown : s.vm.findClass "com/example/portunus/portunus/AtomCanonicalLengthPinLaw" = some m.cls := findClass_of_methodNamed Bd.named
  have hnm := (name_of_methodNamed Bd.named Bd.method).1
  have X0 : Stand p l e room_1 s m #[(.int p0), (.int p1), (.int p2)] below meth c s₁ [] 0 0 := Stand.of_body Bd
  have e0 : s₁.heap = h0 := by rw [← hh, Bd.state]; rfl
  have N0 := Fr.nil n0
  refine own_out (own_nm fun G hG => own_st (fun zt zk => castTop (ef_rm0 m p0 p1 p2) zk) ?_)
  have J23_8 : ∀ (n3 : Int32) (nn : Nat) (hnn : n3.toInt = nn) (hn1010 : nn ≤ 1010), own_Go p e below G (s₁.setTop (mkF m 23 #[.val (.int p0), .val (.int p1), .val (.int p2), .val (.int n3), .unset, .unset, .unset] [])) := by
    intro n3 nn hnn hn1010
    show own_Go p e below G (s₁.setTop (mkF m 23 #[.val (.int p0), .val (.int p1), .val (.int p2), .val (.int n3), .unset, .unset, .unset] []))
    refine own_st (fun zw zk => XS.iloadN X0.here hx rfl (hb hby at_23) rfl zk) ?_
    obtain ⟨T9, h9, k9, X9, e9, E9, A9, B9, st9⟩ := newPE X0 hx hZ (hw _ (List.mem_of_getElem? (i := 0) rfl)) e0 (g := (mkF m 24 #[.val (.int p0), .val (.int p1), .val (.int p2), .val (.int n3), .unset, .unset, .unset] [(.int n3)])) rfl (hb hby at_24) rfl (own_nn hnn) (cap := 1010) (by rw [own_nat hnn]; exact hn1010) (by decide) (by decide) (by decide) (ad := "[B") (by decide)
    obtain ⟨b9, g9⟩ : ∃ z, z = h0.size := ⟨_, rfl⟩
    rw [← g9] at A9 B9 st9
    have G9 : n0 ≤ b9 := Nat.le_trans Z0 (Nat.le_of_eq g9.symm)
    have Z9 : n0 ≤ h9.size := Nat.le_trans Z0 E9.1
    have V9 : own_L Z h9 b9 .byte ((List.replicate nn (.int 0))) := (by have q := (own_L.new A9); rw [own_nat hnn] at q; exact q)
    refine own_st (fun zw zk => st9 zw zk) ?_
    refine own_st (fun zw zk => XS.astore X9.here hx rfl (hb hby at_26) rfl rfl rfl zk) ?_
    obtain ⟨vs, V28, hlen0, hfit0⟩ : ∃ vs : List Value, own_L Z h9 b9 .byte vs ∧ vs.length = nn ∧ ∀ v ∈ vs, fits .byte v = true := ⟨_, V9, by simp, own_repfit nn⟩
    have J49_10 : ∀ (vt : List Value) (hj10 : Heap) (Zj10 : n0 ≤ hj10.size) (Fj10_0 : own_L Z hj10 b9 .byte (vt)) (Fj10_1 : Exa Z hj10 b9 "[B") (Tj10 : State) (Lj10 : List Loc) (Xj10 : Stand p l e room_1 s m #[(.int p0), (.int p1), (.int p2)] below meth c Tj10 Lj10 1 1010) (ej10 : Tj10.heap = hj10) (Nj10 : Fr n0 Lj10) (hlen : vt.length = nn) (hfit : ∀ v ∈ vt, fits .byte v = true), own_Go p e below G (Tj10.setTop (mkF m 49 #[.val (.int p0), .val (.int p1), .val (.int p2), .val (.int n3), .val (.ref b9), .unset, .unset] [])) := by
      intro vt hj10 Zj10 Fj10_0 Fj10_1 Tj10 Lj10 Xj10 ej10 Nj10 hlen hfit
      show own_Go p e below G (Tj10.setTop (mkF m 49 #[.val (.int p0), .val (.int p1), .val (.int p2), .val (.int n3), .val (.ref b9), .unset, .unset] []))
      obtain ⟨T11, h11, X11, e11, E11, A11, D11, -, st11⟩ := newO Xj10 hx hZ hown (hw _ (List.mem_of_getElem? (i := 1) rfl)) (hw _ (List.mem_of_getElem? (i := 2) rfl)) (hw _ (List.mem_of_getElem? (i := 3) rfl)) ej10 (g := (mkF m 49 #[.val (.int p0), .val (.int p1), .val (.int p2), .val (.int n3), .val (.ref b9), .unset, .unset] [])) rfl (hb hby at_49) (by decide) (by decide)
      obtain ⟨b11, g11⟩ : ∃ z, z = hj10.size := ⟨_, rfl⟩
      rw [← g11] at A11 D11 st11
      have G11 : n0 ≤ b11 := Nat.le_trans Zj10 (Nat.le_of_eq g11.symm)
      have ne_b9_b11 : b9 ≠ b11 := Nat.ne_of_lt (Nat.lt_of_lt_of_le Fj10_0.lt (Nat.le_of_eq g11.symm))
      have Fj100_11 := Fj10_0.ext E11
      have Fj101_11 := Fj10_1.ext E11
      have Z11 : n0 ≤ h11.size := Nat.le_trans Zj10 E11.1
      have Fb11bytes : Fld Z h11 b11 "com/example/portunus/portunus/Atom" "bytes" "[B" .null := D11 (Or.inr (hw _ (List.mem_of_getElem? (i := 20) rfl))) (ty := (.array .byte)) (by decide)
      refine own_st (fun zw zk => st11 zw zk) ?_
      refine own_st (fun zw zk => XS.dup X11.here hx rfl (hb hby at_52) rfl rfl zk) ?_
      refine own_st (fun zw zk => XS.aload X11.here hx rfl (hb hby at_53) rfl rfl zk) ?_
      obtain ⟨_, _, ⟨T12, L12, k12, n12⟩, -, X12, ⟨Lc12, hQ12, l12, y12, z12⟩, st12⟩ := X11.specialBack hx (y := (⟨"com/example/portunus/portunus/Atom", "<init>", "([B)V"⟩ : MethodName)) rfl hown (mvT hZ (hw _ (List.mem_of_getElem? (i := 4) rfl))) (mvT hZ (hw _ (List.mem_of_getElem? (i := 5) rfl))) (mvT hZ (hw _ (List.mem_of_getElem? (i := 6) rfl))) (by decide) (backOf (W := 1) (rm1 l Z a0 hw [] b11 b9 vt h11 n0 Z11 (A11) (Fb11bytes) (Fj100_11) (Fj101_11) (G11) (by rw [hlen]; exact hn1010) (hfit) ((Ne.symm ne_b9_b11))) hZ (hw _ (List.mem_of_getElem? (i := 6) rfl)) (hw _ (List.mem_of_getElem? (i := 3) rfl)) (by decide) (by decide)) (g := (mkF m 55 #[.val (.int p0), .val (.int p1), .val (.int p2), .val (.int n3), .val (.ref b9), .unset, .unset] [(.ref b9), (.ref b11), (.ref b11)])) rfl (by rw [hml]; rfl) (Steps.refl _) (a := b11) (argsL := [(.ref b9)]) (rest := [(.ref b11)]) (lenOf pd_1 rfl) rfl (by show 2 * 0 + _ ≤ _; exact Nat.le_of_eq rfl) (hb hby at_55) (fun _ _ => ⟨rfl, e11, (by decide : 2 + 1 ≤ _), (by decide : 1011 + 1010 ≤ _)⟩)
      dsimp only [Pt.U, Pt.locs, Pt.cells, Pt.slots] at X12 l12 y12 z12 st12 hQ12
      subst l12 y12 z12
      obtain ⟨rfl, N12q, bb12, K12, O12_0, O12_1, O12_2⟩ := hQ12
      have Fj100_12 := Fj100_11.keep K12 (ninS ne_b9_b11 nin0)
      have Fj101_12 := Fj101_11.keep K12
      have Ab11_12 := A11.keep K12
      have Z12 : n0 ≤ T12.heap.size := Nat.le_trans Z11 K12.1
      have N12 := Fr.app Nj10 N12q
      refine own_jp st12 ?_
      refine own_st (fun zw zk => XS.astore X12.here hx rfl (hb hby at_58) rfl rfl rfl zk) ?_
      show own_Go p e below G (T12.setTop (mkF m 60 #[.val (.int p0), .val (.int p1), .val (.int p2), .val (.int n3), .val (.ref b9), .val (.ref b11), .unset] []))
      refine own_st (fun zw zk => XS.iloadN X12.here hx rfl (hb hby at_60) rfl zk) ?_
      refine own_st (fun zw zk => XS.bipush X12.here hx rfl (hb hby at_61) zk) ?_
      by_cases hc63 : n3 < (10 : Int32)
      · refine own_st (fun zw zk => XS.icmpNo X12.here hx rfl (hb hby at_63) rfl (tlt hc63).2.1 zk) ?_
        refine own_st (fun zw zk => XS.iconst X12.here hx rfl (hb hby at_66) zk) ?_
        refine own_st (fun zw zk => XS.istore X12.here hx rfl (hb hby at_67) rfl rfl zk) ?_
        show own_Go p e below G (T12.setTop (mkF m 69 #[.val (.int p0), .val (.int p1), .val (.int p2), .val (.int n3), .val (.ref b9), .val (.ref b11), .val (.int (1 : Int32))] []))
        refine own_st (fun zw zk => XS.goto X12.here hx rfl (pc0 := 69) (pc' := 100) rfl (hb hby at_69) (by decide) (by decide) zk) ?_
        show own_Go p e below G (T12.setTop (mkF m 100 #[.val (.int p0), .val (.int p1), .val (.int p2), .val (.int n3), .val (.ref b9), .val (.ref b11), .val (.int (1 : Int32))] []))
        refine own_st (fun zw zk => XS.aload X12.here hx rfl (hb hby at_100) rfl rfl zk) ?_
        obtain ⟨cq13, kq13, q13a, q13b, q13c⟩ := isOf hZ rfl O12_0
        obtain ⟨_, _, ⟨T13, L13, k13, n13⟩, -, X13, ⟨Lc13, hQ13, l13, y13, z13⟩, st13⟩ := X12.virtualBack hx (y := (⟨"com/example/portunus/portunus/Atom", "canonicalLength", "()I"⟩ : MethodName)) (z := (⟨"com/example/portunus/portunus/Atom", "canonicalLength", "()I"⟩ : MethodName)) hown (mvT hZ (hw _ (List.mem_of_getElem? (i := 21) rfl))) (mvT hZ (hw _ (List.mem_of_getElem? (i := 22) rfl))) (notFace_of_selects (args := #[]) (mvT hZ (hw _ (List.mem_of_getElem? (i := 24) rfl)))) (mvT hZ (hw _ (List.mem_of_getElem? (i := 24) rfl))) (mvT hZ (hw _ (List.mem_of_getElem? (i := 23) rfl))) (by decide) (backOf (W := 0) (rm3 l Z a0 hw [] b11 bb12 vt n3 T12.heap n0 Z12 (O12_1) (O12_2) (own_lenz hnn hlen) (by omega) (by omega)) hZ (hw _ (List.mem_of_getElem? (i := 25) rfl)) (hw _ (List.mem_of_getElem? (i := 3) rfl)) (by decide) (by decide)) q13a q13c (g := (mkF m 102 #[.val (.int p0), .val (.int p1), .val (.int p2), .val (.int n3), .val (.ref b9), .val (.ref b11), .val (.int (1 : Int32))] [(.ref b11)])) rfl (by rw [hml]; rfl) (Steps.refl _) (argsL := []) (rest := []) (lenOf pd_2 rfl) rfl (by show 2 * 0 + _ ≤ _; exact Nat.le_of_eq rfl) (hb hby at_102) (fun _ _ => ⟨rfl, rfl, (by decide : 3 + 0 ≤ _), (by decide : 2021 + 0 ≤ _)⟩)
        dsimp only [Pt.U, Pt.locs, Pt.cells, Pt.slots] at X13 l13 y13 z13 st13 hQ13
        subst l13 y13 z13
        obtain ⟨rfl, N13q, e13⟩ := hQ13
        have N13 := Fr.app N12 N13q
        refine own_jp st13 ?_
        refine own_st (fun zw zk => XS.iload X13.here hx rfl (hb hby at_105) rfl zk) ?_
        refine own_st (fun zw zk => XS.iconst X13.here hx rfl (hb hby at_107) zk) ?_
        refine own_st (fun zw zk => XS.iadd X13.here hx rfl (hb hby at_108) rfl zk) ?_
        refine own_st (fun zw zk => XS.iloadN X13.here hx rfl (hb hby at_109) rfl zk) ?_
        refine own_st (fun zw zk => XS.iadd X13.here hx rfl (hb hby at_110) rfl zk) ?_
        have hc111 : (own_cl n3) = ((2 : Int32) + n3) := (own_law hnn hn1010).trans (by rw [if_pos hc63])
        refine own_st (fun zw zk => XS.icmpNo X13.here hx rfl (hb hby at_111) rfl (teq hc111).2 zk) ?_
        show own_Go p e below G (T13.setTop (mkF m 114 #[.val (.int p0), .val (.int p1), .val (.int p2), .val (.int n3), .val (.ref b9), .val (.ref b11), .val (.int (1 : Int32))] []))
        refine own_st (fun zw zk => XS.iconst X13.here hx rfl (hb hby at_114) zk) ?_
        refine own_st (fun zw zk => XS.goto X13.here hx rfl (pc0 := 115) (pc' := 119) rfl (hb hby at_115) (by decide) (by decide) zk) ?_
        show own_Go p e below G (T13.setTop (mkF m 119 #[.val (.int p0), .val (.int p1), .val (.int p2), .val (.int n3), .val (.ref b9), .val (.ref b11), .val (.int (1 : Int32))] [(.int (1 : Int32))]))
        subst hG
        obtain ⟨fs, hr, hrun, hended, hW, hsame⟩ := X13.leave (v := some (.int (1 : Int32))) (fun h => by rw [Bd.returns] at h; cases h)
        refine ⟨_, retN X13 hx (t := .boolean) Bd.returns (by simp) (hb hby at_119) hr, _, hrun, hended, _, _, rfl, ?_, ⟨_, rfl⟩, hW, hsame.mono (by decide) (by decide)⟩
        show Q0 Z p0 p1 p2 h0 n0 _ T13.heap _
        rw [e13]
        exact ⟨rfl, N13⟩
      · refine own_st (fun zw zk => XS.icmpYes X12.here hx rfl (pc0 := 63) (pc' := 72) rfl (hb hby at_63) rfl (flt hc63).2.1 (by decide) (by decide) zk) ?_
        refine own_st (fun zw zk => XS.iloadN X12.here hx rfl (hb hby at_72) rfl zk) ?_
        refine own_st (fun zw zk => XS.bipush X12.here hx rfl (hb hby at_73) zk) ?_
        by_cases hc75 : n3 < (100 : Int32)
        · refine own_st (fun zw zk => XS.icmpNo X12.here hx rfl (hb hby at_75) rfl (tlt hc75).2.1 zk) ?_
          refine own_st (fun zw zk => XS.iconst X12.here hx rfl (hb hby at_78) zk) ?_
          refine own_st (fun zw zk => XS.istore X12.here hx rfl (hb hby at_79) rfl rfl zk) ?_
          show own_Go p e below G (T12.setTop (mkF m 81 #[.val (.int p0), .val (.int p1), .val (.int p2), .val (.int n3), .val (.ref b9), .val (.ref b11), .val (.int (2 : Int32))] []))
          refine own_st (fun zw zk => XS.goto X12.here hx rfl (pc0 := 81) (pc' := 100) rfl (hb hby at_81) (by decide) (by decide) zk) ?_
          show own_Go p e below G (T12.setTop (mkF m 100 #[.val (.int p0), .val (.int p1), .val (.int p2), .val (.int n3), .val (.ref b9), .val (.ref b11), .val (.int (2 : Int32))] []))
          refine own_st (fun zw zk => XS.aload X12.here hx rfl (hb hby at_100) rfl rfl zk) ?_
          obtain ⟨cq14, kq14, q14a, q14b, q14c⟩ := isOf hZ rfl O12_0
          obtain ⟨_, _, ⟨T14, L14, k14, n14⟩, -, X14, ⟨Lc14, hQ14, l14, y14, z14⟩, st14⟩ := X12.virtualBack hx (y := (⟨"com/example/portunus/portunus/Atom", "canonicalLength", "()I"⟩ : MethodName)) (z := (⟨"com/example/portunus/portunus/Atom", "canonicalLength", "()I"⟩ : MethodName)) hown (mvT hZ (hw _ (List.mem_of_getElem? (i := 21) rfl))) (mvT hZ (hw _ (List.mem_of_getElem? (i := 22) rfl))) (notFace_of_selects (args := #[]) (mvT hZ (hw _ (List.mem_of_getElem? (i := 24) rfl)))) (mvT hZ (hw _ (List.mem_of_getElem? (i := 24) rfl))) (mvT hZ (hw _ (List.mem_of_getElem? (i := 23) rfl))) (by decide) (backOf (W := 0) (rm3 l Z a0 hw [] b11 bb12 vt n3 T12.heap n0 Z12 (O12_1) (O12_2) (own_lenz hnn hlen) (by omega) (by omega)) hZ (hw _ (List.mem_of_getElem? (i := 25) rfl)) (hw _ (List.mem_of_getElem? (i := 3) rfl)) (by decide) (by decide)) q14a q14c (g := (mkF m 102 #[.val (.int p0), .val (.int p1), .val (.int p2), .val (.int n3), .val (.ref b9), .val (.ref b11), .val (.int (2 : Int32))] [(.ref b11)])) rfl (by rw [hml]; rfl) (Steps.refl _) (argsL := []) (rest := []) (lenOf pd_2 rfl) rfl (by show 2 * 0 + _ ≤ _; exact Nat.le_of_eq rfl) (hb hby at_102) (fun _ _ => ⟨rfl, rfl, (by decide : 3 + 0 ≤ _), (by decide : 2021 + 0 ≤ _)⟩)
          dsimp only [Pt.U, Pt.locs, Pt.cells, Pt.slots] at X14 l14 y14 z14 st14 hQ14
          subst l14 y14 z14
          obtain ⟨rfl, N14q, e14⟩ := hQ14
          have N14 := Fr.app N12 N14q
          refine own_jp st14 ?_
          refine own_st (fun zw zk => XS.iload X14.here hx rfl (hb hby at_105) rfl zk) ?_
          refine own_st (fun zw zk => XS.iconst X14.here hx rfl (hb hby at_107) zk) ?_
          refine own_st (fun zw zk => XS.iadd X14.here hx rfl (hb hby at_108) rfl zk) ?_
          refine own_st (fun zw zk => XS.iloadN X14.here hx rfl (hb hby at_109) rfl zk) ?_
          refine own_st (fun zw zk => XS.iadd X14.here hx rfl (hb hby at_110) rfl zk) ?_
          have hc111 : (own_cl n3) = ((3 : Int32) + n3) := (own_law hnn hn1010).trans (by rw [if_neg hc63, if_pos hc75])
          refine own_st (fun zw zk => XS.icmpNo X14.here hx rfl (hb hby at_111) rfl (teq hc111).2 zk) ?_
          show own_Go p e below G (T14.setTop (mkF m 114 #[.val (.int p0), .val (.int p1), .val (.int p2), .val (.int n3), .val (.ref b9), .val (.ref b11), .val (.int (2 : Int32))] []))
          refine own_st (fun zw zk => XS.iconst X14.here hx rfl (hb hby at_114) zk) ?_
          refine own_st (fun zw zk => XS.goto X14.here hx rfl (pc0 := 115) (pc' := 119) rfl (hb hby at_115) (by decide) (by decide) zk) ?_
          show own_Go p e below G (T14.setTop (mkF m 119 #[.val (.int p0), .val (.int p1), .val (.int p2), .val (.int n3), .val (.ref b9), .val (.ref b11), .val (.int (2 : Int32))] [(.int (1 : Int32))]))
          subst hG
          obtain ⟨fs, hr, hrun, hended, hW, hsame⟩ := X14.leave (v := some (.int (1 : Int32))) (fun h => by rw [Bd.returns] at h; cases h)
          refine ⟨_, retN X14 hx (t := .boolean) Bd.returns (by simp) (hb hby at_119) hr, _, hrun, hended, _, _, rfl, ?_, ⟨_, rfl⟩, hW, hsame.mono (by decide) (by decide)⟩
          show Q0 Z p0 p1 p2 h0 n0 _ T14.heap _
          rw [e14]
          exact ⟨rfl, N14⟩
        · refine own_st (fun zw zk => XS.icmpYes X12.here hx rfl (pc0 := 75) (pc' := 84) rfl (hb hby at_75) rfl (flt hc75).2.1 (by decide) (by decide) zk) ?_
          refine own_st (fun zw zk => XS.iloadN X12.here hx rfl (hb hby at_84) rfl zk) ?_
          refine own_st (fun zw zk => XS.sipush X12.here hx rfl (hb hby at_85) zk) ?_
          show own_Go p e below G (T12.setTop (mkF m 88 #[.val (.int p0), .val (.int p1), .val (.int p2), .val (.int n3), .val (.ref b9), .val (.ref b11), .unset] [(.int (1000 : Int32)), (.int n3)]))
          by_cases hc88 : n3 < (1000 : Int32)
          · refine own_st (fun zw zk => XS.icmpNo X12.here hx rfl (hb hby at_88) rfl (tlt hc88).2.1 zk) ?_
            refine own_st (fun zw zk => XS.iconst X12.here hx rfl (hb hby at_91) zk) ?_
            refine own_st (fun zw zk => XS.istore X12.here hx rfl (hb hby at_92) rfl rfl zk) ?_
            show own_Go p e below G (T12.setTop (mkF m 94 #[.val (.int p0), .val (.int p1), .val (.int p2), .val (.int n3), .val (.ref b9), .val (.ref b11), .val (.int (3 : Int32))] []))
            refine own_st (fun zw zk => XS.goto X12.here hx rfl (pc0 := 94) (pc' := 100) rfl (hb hby at_94) (by decide) (by decide) zk) ?_
            show own_Go p e below G (T12.setTop (mkF m 100 #[.val (.int p0), .val (.int p1), .val (.int p2), .val (.int n3), .val (.ref b9), .val (.ref b11), .val (.int (3 : Int32))] []))
            refine own_st (fun zw zk => XS.aload X12.here hx rfl (hb hby at_100) rfl rfl zk) ?_
            obtain ⟨cq15, kq15, q15a, q15b, q15c⟩ := isOf hZ rfl O12_0
            obtain ⟨_, _, ⟨T15, L15, k15, n15⟩, -, X15, ⟨Lc15, hQ15, l15, y15, z15⟩, st15⟩ := X12.virtualBack hx (y := (⟨"com/example/portunus/portunus/Atom", "canonicalLength", "()I"⟩ : MethodName)) (z := (⟨"com/example/portunus/portunus/Atom", "canonicalLength", "()I"⟩ : MethodName)) hown (mvT hZ (hw _ (List.mem_of_getElem? (i := 21) rfl))) (mvT hZ (hw _ (List.mem_of_getElem? (i := 22) rfl))) (notFace_of_selects (args := #[]) (mvT hZ (hw _ (List.mem_of_getElem? (i := 24) rfl)))) (mvT hZ (hw _ (List.mem_of_getElem? (i := 24) rfl))) (mvT hZ (hw _ (List.mem_of_getElem? (i := 23) rfl))) (by decide) (backOf (W := 0) (rm3 l Z a0 hw [] b11 bb12 vt n3 T12.heap n0 Z12 (O12_1) (O12_2) (own_lenz hnn hlen) (by omega) (by omega)) hZ (hw _ (List.mem_of_getElem? (i := 25) rfl)) (hw _ (List.mem_of_getElem? (i := 3) rfl)) (by decide) (by decide)) q15a q15c (g := (mkF m 102 #[.val (.int p0), .val (.int p1), .val (.int p2), .val (.int n3), .val (.ref b9), .val (.ref b11), .val (.int (3 : Int32))] [(.ref b11)])) rfl (by rw [hml]; rfl) (Steps.refl _) (argsL := []) (rest := []) (lenOf pd_2 rfl) rfl (by show 2 * 0 + _ ≤ _; exact Nat.le_of_eq rfl) (hb hby at_102) (fun _ _ => ⟨rfl, rfl, (by decide : 3 + 0 ≤ _), (by decide : 2021 + 0 ≤ _)⟩)
            dsimp only [Pt.U, Pt.locs, Pt.cells, Pt.slots] at X15 l15 y15 z15 st15 hQ15
            subst l15 y15 z15
            obtain ⟨rfl, N15q, e15⟩ := hQ15
            have N15 := Fr.app N12 N15q
            refine own_jp st15 ?_
            refine own_st (fun zw zk => XS.iload X15.here hx rfl (hb hby at_105) rfl zk) ?_
            refine own_st (fun zw zk => XS.iconst X15.here hx rfl (hb hby at_107) zk) ?_
            refine own_st (fun zw zk => XS.iadd X15.here hx rfl (hb hby at_108) rfl zk) ?_
            refine own_st (fun zw zk => XS.iloadN X15.here hx rfl (hb hby at_109) rfl zk) ?_
            refine own_st (fun zw zk => XS.iadd X15.here hx rfl (hb hby at_110) rfl zk) ?_
            have hc111 : (own_cl n3) = ((4 : Int32) + n3) := (own_law hnn hn1010).trans (by rw [if_neg hc63, if_neg hc75, if_pos hc88])
            refine own_st (fun zw zk => XS.icmpNo X15.here hx rfl (hb hby at_111) rfl (teq hc111).2 zk) ?_
            show own_Go p e below G (T15.setTop (mkF m 114 #[.val (.int p0), .val (.int p1), .val (.int p2), .val (.int n3), .val (.ref b9), .val (.ref b11), .val (.int (3 : Int32))] []))
            refine own_st (fun zw zk => XS.iconst X15.here hx rfl (hb hby at_114) zk) ?_
            refine own_st (fun zw zk => XS.goto X15.here hx rfl (pc0 := 115) (pc' := 119) rfl (hb hby at_115) (by decide) (by decide) zk) ?_
            show own_Go p e below G (T15.setTop (mkF m 119 #[.val (.int p0), .val (.int p1), .val (.int p2), .val (.int n3), .val (.ref b9), .val (.ref b11), .val (.int (3 : Int32))] [(.int (1 : Int32))]))
            subst hG
            obtain ⟨fs, hr, hrun, hended, hW, hsame⟩ := X15.leave (v := some (.int (1 : Int32))) (fun h => by rw [Bd.returns] at h; cases h)
            refine ⟨_, retN X15 hx (t := .boolean) Bd.returns (by simp) (hb hby at_119) hr, _, hrun, hended, _, _, rfl, ?_, ⟨_, rfl⟩, hW, hsame.mono (by decide) (by decide)⟩
            show Q0 Z p0 p1 p2 h0 n0 _ T15.heap _
            rw [e15]
            exact ⟨rfl, N15⟩
          · refine own_st (fun zw zk => XS.icmpYes X12.here hx rfl (pc0 := 88) (pc' := 97) rfl (hb hby at_88) rfl (flt hc88).2.1 (by decide) (by decide) zk) ?_
            refine own_st (fun zw zk => XS.iconst X12.here hx rfl (hb hby at_97) zk) ?_
            refine own_st (fun zw zk => XS.istore X12.here hx rfl (hb hby at_98) rfl rfl zk) ?_
            show own_Go p e below G (T12.setTop (mkF m 100 #[.val (.int p0), .val (.int p1), .val (.int p2), .val (.int n3), .val (.ref b9), .val (.ref b11), .val (.int (4 : Int32))] []))
            refine own_st (fun zw zk => XS.aload X12.here hx rfl (hb hby at_100) rfl rfl zk) ?_
            obtain ⟨cq16, kq16, q16a, q16b, q16c⟩ := isOf hZ rfl O12_0
            obtain ⟨_, _, ⟨T16, L16, k16, n16⟩, -, X16, ⟨Lc16, hQ16, l16, y16, z16⟩, st16⟩ := X12.virtualBack hx (y := (⟨"com/example/portunus/portunus/Atom", "canonicalLength", "()I"⟩ : MethodName)) (z := (⟨"com/example/portunus/portunus/Atom", "canonicalLength", "()I"⟩ : MethodName)) hown (mvT hZ (hw _ (List.mem_of_getElem? (i := 21) rfl))) (mvT hZ (hw _ (List.mem_of_getElem? (i := 22) rfl))) (notFace_of_selects (args := #[]) (mvT hZ (hw _ (List.mem_of_getElem? (i := 24) rfl)))) (mvT hZ (hw _ (List.mem_of_getElem? (i := 24) rfl))) (mvT hZ (hw _ (List.mem_of_getElem? (i := 23) rfl))) (by decide) (backOf (W := 0) (rm3 l Z a0 hw [] b11 bb12 vt n3 T12.heap n0 Z12 (O12_1) (O12_2) (own_lenz hnn hlen) (by omega) (by omega)) hZ (hw _ (List.mem_of_getElem? (i := 25) rfl)) (hw _ (List.mem_of_getElem? (i := 3) rfl)) (by decide) (by decide)) q16a q16c (g := (mkF m 102 #[.val (.int p0), .val (.int p1), .val (.int p2), .val (.int n3), .val (.ref b9), .val (.ref b11), .val (.int (4 : Int32))] [(.ref b11)])) rfl (by rw [hml]; rfl) (Steps.refl _) (argsL := []) (rest := []) (lenOf pd_2 rfl) rfl (by show 2 * 0 + _ ≤ _; exact Nat.le_of_eq rfl) (hb hby at_102) (fun _ _ => ⟨rfl, rfl, (by decide : 3 + 0 ≤ _), (by decide : 2021 + 0 ≤ _)⟩)
            dsimp only [Pt.U, Pt.locs, Pt.cells, Pt.slots] at X16 l16 y16 z16 st16 hQ16
            subst l16 y16 z16
            obtain ⟨rfl, N16q, e16⟩ := hQ16
            have N16 := Fr.app N12 N16q
            refine own_jp st16 ?_
            refine own_st (fun zw zk => XS.iload X16.here hx rfl (hb hby at_105) rfl zk) ?_
            refine own_st (fun zw zk => XS.iconst X16.here hx rfl (hb hby at_107) zk) ?_
            refine own_st (fun zw zk => XS.iadd X16.here hx rfl (hb hby at_108) rfl zk) ?_
            refine own_st (fun zw zk => XS.iloadN X16.here hx rfl (hb hby at_109) rfl zk) ?_
            refine own_st (fun zw zk => XS.iadd X16.here hx rfl (hb hby at_110) rfl zk) ?_
            have hc111 : (own_cl n3) = ((5 : Int32) + n3) := (own_law hnn hn1010).trans (by rw [if_neg hc63, if_neg hc75, if_neg hc88])
            refine own_st (fun zw zk => XS.icmpNo X16.here hx rfl (hb hby at_111) rfl (teq hc111).2 zk) ?_
            show own_Go p e below G (T16.setTop (mkF m 114 #[.val (.int p0), .val (.int p1), .val (.int p2), .val (.int n3), .val (.ref b9), .val (.ref b11), .val (.int (4 : Int32))] []))
            refine own_st (fun zw zk => XS.iconst X16.here hx rfl (hb hby at_114) zk) ?_
            refine own_st (fun zw zk => XS.goto X16.here hx rfl (pc0 := 115) (pc' := 119) rfl (hb hby at_115) (by decide) (by decide) zk) ?_
            show own_Go p e below G (T16.setTop (mkF m 119 #[.val (.int p0), .val (.int p1), .val (.int p2), .val (.int n3), .val (.ref b9), .val (.ref b11), .val (.int (4 : Int32))] [(.int (1 : Int32))]))
            subst hG
            obtain ⟨fs, hr, hrun, hended, hW, hsame⟩ := X16.leave (v := some (.int (1 : Int32))) (fun h => by rw [Bd.returns] at h; cases h)
            refine ⟨_, retN X16 hx (t := .boolean) Bd.returns (by simp) (hb hby at_119) hr, _, hrun, hended, _, _, rfl, ?_, ⟨_, rfl⟩, hW, hsame.mono (by decide) (by decide)⟩
            show Q0 Z p0 p1 p2 h0 n0 _ T16.heap _
            rw [e16]
            exact ⟨rfl, N16⟩
    show own_Go p e below G (T9.setTop (mkF m 28 #[.val (.int p0), .val (.int p1), .val (.int p2), .val (.int n3), .val (.ref b9), .unset, .unset] []))
    refine own_st (fun zw zk => XS.iloadN X9.here hx rfl (hb hby at_28) rfl zk) ?_
    by_cases hc29 : (0 : Int32) < n3
    · refine own_st (fun zw zk => XS.ifNo X9.here hx rfl (hb hby at_29) rfl ((if0 _ _).trans (tlt hc29).2.2.2) zk) ?_
      refine own_st (fun zw zk => XS.aload X9.here hx rfl (hb hby at_32) rfl rfl zk) ?_
      refine own_st (fun zw zk => XS.iconst X9.here hx rfl (hb hby at_34) zk) ?_
      refine own_st (fun zw zk => XS.iloadN X9.here hx rfl (hb hby at_35) rfl zk) ?_
      refine own_st (fun zw zk => XS.i2b X9.here hx rfl (hb hby at_36) rfl zk) ?_
      obtain ⟨T17, h17, X17, e17, W17, V17, st17⟩ := own_bst X9 hx hZ e9 V28 (j := (0 : Int32)) (0) (by decide) (by decide) (by rw [hlen0]; exact own_posn hnn hc29) (g := (mkF m 37 #[.val (.int p0), .val (.int p1), .val (.int p2), .val (.int n3), .val (.ref b9), .unset, .unset] [(.int (p2.toInt8.toInt32)), (.int (0 : Int32)), (.ref b9)])) rfl rfl (hb hby at_37)
      have Vb9_17 : own_L Z h17 b9 .byte ((vs.set 0 (.int ((p2.toInt8.toInt32).toInt8.toInt32)))) := V17
      have N17 := Fr.snoc X17 N0 G9
      refine own_st (fun zw zk => st17 zw zk) ?_
      have Bb9_17 := B9.wr W17
      have Z17 : n0 ≤ h17.size := Nat.le_trans Z9 (Keep.of_wr W17).1
      refine own_st (fun zw zk => XS.aload X17.here hx rfl (hb hby at_38) rfl rfl zk) ?_
      show own_Go p e below G (T17.setTop (mkF m 40 #[.val (.int p0), .val (.int p1), .val (.int p2), .val (.int n3), .val (.ref b9), .unset, .unset] [(.ref b9)]))
      refine own_st (fun zw zk => XS.iloadN X17.here hx rfl (hb hby at_40) rfl zk) ?_
      refine own_st (fun zw zk => XS.iconst X17.here hx rfl (hb hby at_41) zk) ?_
      refine own_st (fun zw zk => XS.isub X17.here hx rfl (hb hby at_42) rfl zk) ?_
      refine own_st (fun zw zk => XS.iloadN X17.here hx rfl (hb hby at_43) rfl zk) ?_
      refine own_st (fun zw zk => XS.bipush X17.here hx rfl (hb hby at_44) zk) ?_
      refine own_st (fun zw zk => XS.ishr X17.here hx rfl (hb hby at_46) rfl zk) ?_
      refine own_st (fun zw zk => XS.i2b X17.here hx rfl (hb hby at_47) rfl zk) ?_
      obtain ⟨T18, h18, X18, e18, W18, V18, st18⟩ := own_bst X17 hx hZ e17 Vb9_17 (j := (n3 - (1 : Int32))) (nn - 1) (own_nn (own_pred hnn hc29)) (own_nat (own_pred hnn hc29)) (by rw [List.length_set, hlen0]; have := own_posn hnn hc29; omega) (g := (mkF m 48 #[.val (.int p0), .val (.int p1), .val (.int p2), .val (.int n3), .val (.ref b9), .unset, .unset] [(.int ((p2 >>> ((8 : Int32) &&& 31)).toInt8.toInt32)), (.int (n3 - (1 : Int32))), (.ref b9)])) rfl rfl (hb hby at_48)
      have Vb9_18 : own_L Z h18 b9 .byte (((vs.set 0 (.int ((p2.toInt8.toInt32).toInt8.toInt32))).set (nn - 1) (.int (((p2 >>> ((8 : Int32) &&& 31)).toInt8.toInt32).toInt8.toInt32)))) := V18
      have N18 := Fr.snoc X18 N17 G9
      refine own_st (fun zw zk => st18 zw zk) ?_
      have Bb9_18 := Bb9_17.wr W18
      have Z18 : n0 ≤ h18.size := Nat.le_trans Z17 (Keep.of_wr W18).1
      show own_Go p e below G (T18.setTop (mkF m 49 #[.val (.int p0), .val (.int p1), .val (.int p2), .val (.int n3), .val (.ref b9), .unset, .unset] []))
      exact J49_10 (((vs.set 0 (.int ((p2.toInt8.toInt32).toInt8.toInt32))).set (nn - 1) (.int (((p2 >>> ((8 : Int32) &&& 31)).toInt8.toInt32).toInt8.toInt32)))) _ Z18 Vb9_18 Bb9_18 _ _ X18 e18 N18 (by simp [hlen0]) (own_setfit (own_setfit hfit0 (fits_nar_byte _)) (fits_nar_byte _))
    · refine own_st (fun zw zk => XS.ifYes X9.here hx rfl (pc0 := 29) (pc' := 49) rfl (hb hby at_29) rfl ((if0 _ _).trans (flt hc29).2.2.2) (by decide) (by decide) zk) ?_
      show own_Go p e below G (T9.setTop (mkF m 49 #[.val (.int p0), .val (.int p1), .val (.int p2), .val (.int n3), .val (.ref b9), .unset, .unset] []))
      exact J49_10 (vs) _ Z9 V28 B9 _ _ X9 e9 N0 (hlen0) (hfit0)
  show own_Go p e below G (s₁.setTop (mkF m 0 #[.val (.int p0), .val (.int p1), .val (.int p2), .unset, .unset, .unset, .unset] []))
  refine own_st (fun zw zk => XS.iloadN X0.here hx rfl (hb hby at_0) rfl zk) ?_
  refine own_st (fun zw zk => XS.iconst X0.here hx rfl (hb hby at_1) zk) ?_
  refine own_st (fun zw zk => XS.iand X0.here hx rfl (hb hby at_2) rfl zk) ?_
  by_cases hc3 : (p0 &&& (1 : Int32)) = (0 : Int32)
  · refine own_st (fun zw zk => XS.ifNo X0.here hx rfl (hb hby at_3) rfl ((if0 _ _).trans (teq hc3).2) zk) ?_
    refine own_st (fun zw zk => XS.iloadN X0.here hx rfl (hb hby at_6) rfl zk) ?_
    refine own_st (fun zw zk => XS.bipush X0.here hx rfl (hb hby at_7) zk) ?_
    refine own_st (fun zw zk => XS.iand X0.here hx rfl (hb hby at_9) rfl zk) ?_
    refine own_st (fun zw zk => XS.istoreN X0.here hx rfl (hb hby at_10) rfl rfl zk) ?_
    show own_Go p e below G (s₁.setTop (mkF m 11 #[.val (.int p0), .val (.int p1), .val (.int p2), .val (.int (p1 &&& (127 : Int32))), .unset, .unset, .unset] []))
    refine own_st (fun zw zk => XS.goto X0.here hx rfl (pc0 := 11) (pc' := 23) rfl (hb hby at_11) (by decide) (by decide) zk) ?_
    show own_Go p e below G (s₁.setTop (mkF m 23 #[.val (.int p0), .val (.int p1), .val (.int p2), .val (.int (p1 &&& (127 : Int32))), .unset, .unset, .unset] []))
    exact J23_8 (p1 &&& (127 : Int32)) ((p1 &&& (127 : Int32)).toInt.toNat) ((own_n127 p1).1) ((own_n127 p1).2)
  · refine own_st (fun zw zk => XS.ifYes X0.here hx rfl (pc0 := 3) (pc' := 14) rfl (hb hby at_3) rfl ((if0 _ _).trans (feq hc3).2) (by decide) (by decide) zk) ?_
    refine own_st (fun zw zk => XS.sipush X0.here hx rfl (hb hby at_14) zk) ?_
    refine own_st (fun zw zk => XS.iloadN X0.here hx rfl (hb hby at_17) rfl zk) ?_
    refine own_st (fun zw zk => XS.bipush X0.here hx rfl (hb hby at_18) zk) ?_
    refine own_st (fun zw zk => XS.iand X0.here hx rfl (hb hby at_20) rfl zk) ?_
    show own_Go p e below G (s₁.setTop (mkF m 21 #[.val (.int p0), .val (.int p1), .val (.int p2), .unset, .unset, .unset, .unset] [(.int (p1 &&& (15 : Int32))), (.int (995 : Int32))]))
    refine own_st (fun zw zk => XS.iadd X0.here hx rfl (hb hby at_21) rfl zk) ?_
    refine own_st (fun zw zk => XS.istoreN X0.here hx rfl (hb hby at_22) rfl rfl zk) ?_
    show own_Go p e below G (s₁.setTop (mkF m 23 #[.val (.int p0), .val (.int p1), .val (.int p2), .val (.int ((995 : Int32) + (p1 &&& (15 : Int32)))), .unset, .unset, .unset] []))
    exact J23_8 ((995 : Int32) + (p1 &&& (15 : Int32))) (((995 : Int32) + (p1 &&& (15 : Int32))).toInt.toNat) ((own_n995 p1).1) ((own_n995 p1).2)
set_option maxRecDepth 65536 in
set_option maxHeartbeats 40000000 in
theorem comes_1 {Post : Tables → Env → Array Value → State → Outcome → State → Prop} (hpost : ∀ tb e args s v u, (limb_1_1.after args s (.returned v) u = true ∧ limb_1_2.after args s (.returned v) u = true ∧ True) → FrameEnd s (.returned v) u (Jvm.fieldLocs frame_1_writes args s ++ Jvm.arrayLocs frame_1_arrays args s ++ Jvm.staticLocs frame_1_statics s) 16 4160 → Post tb e args s (.returned v) u) :
    ArmFor flags0 classFile x code maxLocals ret World_1 tables_1 room_1 Calls_1 rest_1 Pre_1 Post := by
  intro l hfl _ _ p e ha hc hk s m args below hf hA hF happ hP
  obtain ⟨hcalls, hrest, hpre⟩ := hP
  obtain ⟨-, -, -, hnamed, -, -, -, hat⟩ := (Spec.applies_iff hf).mp happ
  obtain ⟨hg, hn⟩ := and_e (Cond.before_iff.mp (show (Jvm.Cond.and given_1 narrow_1).before args s = true from hpre))
  obtain ⟨g1, g2⟩ := and_e hg
  obtain ⟨g3, g4⟩ := and_e g2
  obtain ⟨g5, g6⟩ := and_e g4
  obtain ⟨w0, w1, w2, rfl⟩ : ∃ w0 w1 w2 : Value, args = #[w0, w1, w2] := by
    have hs : args.size = 3 := by simpa [Cond.value, given_1] using g1
    obtain ⟨L⟩ := args
    match L, hs with
    | [w0, w1, w2], _ => exact ⟨w0, w1, w2, rfl⟩
  have hw := fun d (hd : d ∈ tables_1) => atoms_spec (ws := Jvm.Cond.code x code maxLocals ret :: tables_1) hat d (List.mem_cons_of_mem _ hd)
  obtain ⟨i0, ei0⟩ := is_v g3
  obtain rfl : w0 = (.int i0) := Option.some.inj ei0
  obtain ⟨i1, ei1⟩ := is_v g5
  obtain rfl : w1 = (.int i1) := Option.some.inj ei1
  obtain ⟨i2, ei2⟩ := is_v g6
  obtain rfl : w2 = (.int i2) := Option.some.inj ei2
  obtain ⟨n, o, h1, h2, h3, _, L, rfl, ⟨rfl, N⟩, hq⟩ := rm0 l s _ hw tables_1 i0 i1 i2 s.heap s.heap.size (Nat.le_refl _) p e ha hc hk s m _ below hf ((Spec.applies_iff_loose hf).mp happ).1 ⟨rfl, State.Warmed39.refl s, rfl⟩ trivial
  refine ⟨n, _, h1, h2, h3, hpost _ _ _ _ _ _ ⟨Cond.after_iff.mpr rfl, Cond.after_iff.mpr (eq_i res_at (Term.int_eval (1)) rfl), trivial⟩ ⟨hq.1, hq.2.1, (hq.2.2.sift fun y hy => Or.inr (N y hy)).mono (by decide) (by decide)⟩⟩
theorem main_1_1 : Claimed_1_1 := comes_1 fun _ _ _ _ _ _ h hF => ⟨h.1, hF⟩
theorem main_1_2 : Claimed_1_2 := comes_1 fun _ _ _ _ _ _ h hF => ⟨h.2.1, hF⟩
end Jvm.Pilot.@@N@@
namespace Jvm.Pilot.@@N@@
open Jvm Jvm.ClassFile Sem Op Lib Jvm.Free Jvm.Stand Jvm.Pilot.@@N@@.Jvm.D
/-! MADE BY PROGRAM (witnessworld.py) out of the Statement's table words and the real class files: 10 classes; the members and pool entries that the words name. The judged class is class 1, her method 1. -/
namespace start1
open Jvm.ClassFile
def u (s : String) : CpInfo := .utf8 (stringToUtf16 s)
/-- a pool by its gaps: so many unusable entries, then the entry; so many at the end -/
def gap : Nat → List CpInfo → List CpInfo
  | 0, r => r
  | n + 1, r => .unusable :: gap n r
def poolList (es : List (Nat × CpInfo)) (last : Nat) : List CpInfo := es.foldr (fun e r => gap e.1 (e.2 :: r)) (gap last [])
def pool (es : List (Nat × CpInfo)) (last : Nat) : Array CpInfo := ⟨poolList es last⟩
def fileOf (pool : Array CpInfo) (this : Nat) (attrs : Array Attribute := #[]) (ms : Array MethodInfo := #[]) (fl : Nat := 33) (sup : Nat := 0) (ifs : Array Nat := #[]) (fds : Array FieldInfo := #[]) : ClassFile where
  minorVersion := 0
  majorVersion := 65
  constantPool := pool
  accessFlags := fl
  thisClass := this
  superClass := sup
  interfaces := ifs
  fields := fds
  methods := ms
  attributes := attrs
def plain (name : String) (sup : Option ClassId) : Class where
  name := name
  kind := .ordinary
  loader := none
  accessFlags := 33
  super := sup
  interfaces := #[]
  cf := none
  fields := #[]
  methods := #[]
  instanceTypes := #[]
  staticTypes := #[]
  resolved := #[]
  callSites := []
  init := .initialized
  statics := none
  mirror := none

def pool0 : Array CpInfo := pool [(5, u "<init>"), (0, u "()V"), (1, .class_ 10), (1, u "java/lang/Object"), (85, u "clone"), (0, u "()Ljava/lang/Object;")] 26

def k0c0 : Code := { maxStack := 0, maxLocals := 1, code := object_method_1_code, exceptionTable := #[], attributes := #[] }
def k0m0 : Method := { name := "<init>", desc := "()V", sig := { parameters := [], returnType := none }, accessFlags := 1, code := some k0c0 }
def k0m1 : Method := { name := "clone", desc := "()Ljava/lang/Object;", sig := { parameters := [], returnType := some (.object "java/lang/Object") }, accessFlags := 260, code := none }
/-- java/lang/Object -/
def k0 : Class := { plain "java/lang/Object" none with
  accessFlags := 33
  interfaces := #[]
  cf := some (fileOf pool0 8 #[] #[{ accessFlags := 1, nameIndex := 5, descriptorIndex := 6, attributes := #[] }, { accessFlags := 260, nameIndex := 96, descriptorIndex := 97, attributes := #[] }] 33 0 #[] #[])
  fields := #[]
  methods := #[k0m0, k0m1]
  instanceTypes := #[]
  staticTypes := #[]
  resolved := Array.replicate 124 none
  statics := none }

def pool1 : Array CpInfo := pool [(2, .class_ 4), (1, u "java/lang/Object"), (0, u "<init>"), (0, u "()V"), (0, .class_ 8), (0, u "com/example/portunus/portunus/Atom"), (0, .methodref 7 10), (0, .nameAndType 5 11), (0, u "([B)V"), (0, .methodref 7 13), (0, .nameAndType 14 15), (0, u "canonicalLength"), (0, u "()I"), (0, .class_ 17), (0, u "com/example/portunus/portunus/AtomCanonicalLengthPinLaw"), (2, u "law"), (0, u "(III)Z")] 5

def k1m0 : Method := { name := "<init>", desc := "()V", sig := { parameters := [], returnType := none }, accessFlags := 1, code := none }
def k1c1 : Code := { maxStack := 4, maxLocals := 7, code := code, exceptionTable := #[], attributes := #[] }
def k1m1 : Method := { name := "law", desc := "(III)Z", sig := { parameters := [.int, .int, .int], returnType := some .boolean }, accessFlags := 9, code := some k1c1 }
/-- com/example/portunus/portunus/AtomCanonicalLengthPinLaw -/
def k1 : Class := { plain "com/example/portunus/portunus/AtomCanonicalLengthPinLaw" (some 0) with
  accessFlags := 49
  interfaces := #[]
  cf := some (fileOf pool1 16 #[] #[{ accessFlags := 1, nameIndex := 5, descriptorIndex := 6, attributes := #[] }, { accessFlags := 9, nameIndex := 20, descriptorIndex := 21, attributes := #[] }] 49 2 #[] #[])
  fields := #[]
  methods := #[k1m0, k1m1]
  instanceTypes := #[]
  staticTypes := #[]
  resolved := Array.replicate 27 none
  statics := none }

def pool2 : Array CpInfo := pool [(2, .class_ 4), (1, u "com/example/portunus/portunus/Sexp"), (20, .class_ 26), (0, u "java/lang/Object")] 12

/-- com/example/portunus/portunus/Sexp -/
def k2 : Class := { plain "com/example/portunus/portunus/Sexp" (some 0) with
  accessFlags := 1536
  interfaces := #[]
  cf := some (fileOf pool2 2 #[] #[] 1536 25 #[] #[])
  fields := #[]
  methods := #[]
  instanceTypes := #[]
  staticTypes := #[]
  resolved := Array.replicate 39 none
  statics := none }

def pool3 : Array CpInfo := pool [(1, .methodref 2 3), (0, .class_ 4), (0, .nameAndType 5 6), (0, u "java/lang/Object"), (0, u "<init>"), (0, u "()V"), (0, .methodref 8 9), (0, .class_ 10), (0, .nameAndType 11 12), (0, u "[B"), (0, u "clone"), (0, u "()Ljava/lang/Object;"), (0, .fieldref 14 15), (0, .class_ 16), (0, .nameAndType 17 10), (0, u "com/example/portunus/portunus/Atom"), (0, u "bytes"), (14, u "([B)V"), (12, .methodref 14 46), (0, .nameAndType 47 48), (0, u "digits"), (0, u "(I)I"), (54, .class_ 104), (0, u "com/example/portunus/portunus/Sexp"), (0, u "TOKEN_PUNCTUATION"), (0, u "Ljava/lang/String;"), (7, u "()I"), (2, u "canonicalLength")] 11

def k3c0 : Code := { maxStack := 2, maxLocals := 2, code := prog_2_method_1_code, exceptionTable := #[], attributes := #[] }
def k3m0 : Method := { name := "<init>", desc := "([B)V", sig := { parameters := [(.array .byte)], returnType := none }, accessFlags := 0, code := some k3c0 }
def k3c1 : Code := { maxStack := 2, maxLocals := 1, code := prog_2_method_7_code, exceptionTable := #[], attributes := #[] }
def k3m1 : Method := { name := "canonicalLength", desc := "()I", sig := { parameters := [], returnType := some .int }, accessFlags := 1, code := some k3c1 }
def k3c2 : Code := { maxStack := 2, maxLocals := 3, code := prog_2_method_14_code, exceptionTable := #[], attributes := #[] }
def k3m2 : Method := { name := "digits", desc := "(I)I", sig := { parameters := [.int], returnType := some .int }, accessFlags := 10, code := some k3c2 }
/-- com/example/portunus/portunus/Atom -/
def k3 : Class := { plain "com/example/portunus/portunus/Atom" (some 0) with
  accessFlags := 48
  interfaces := #[2]
  cf := some (fileOf pool3 14 #[] #[{ accessFlags := 0, nameIndex := 5, descriptorIndex := 32, attributes := #[] }, { accessFlags := 1, nameIndex := 117, descriptorIndex := 114, attributes := #[] }, { accessFlags := 10, nameIndex := 47, descriptorIndex := 48, attributes := #[] }] 48 2 #[103] #[{ accessFlags := 26, nameIndex := 105, descriptorIndex := 106, attributes := #[] }, { accessFlags := 18, nameIndex := 17, descriptorIndex := 10, attributes := #[] }])
  fields := #[{ name := "TOKEN_PUNCTUATION", type := (.object "java/lang/String"), accessFlags := 26, slot := 0, constantValue := 0 }, { name := "bytes", type := (.array .byte), accessFlags := 18, slot := 0, constantValue := 0 }]
  methods := #[k3m0, k3m1, k3m2]
  instanceTypes := #[(.array .byte)]
  staticTypes := #[(.object "java/lang/String")]
  resolved := Array.replicate 129 none
  statics := none }

def pool4 : Array CpInfo := pool [(1, .class_ 2), (0, u "java/lang/Cloneable"), (0, .class_ 4), (0, u "java/lang/Object")] 2

/-- java/lang/Cloneable -/
def k4 : Class := { plain "java/lang/Cloneable" (some 0) with
  accessFlags := 1537
  interfaces := #[]
  cf := some (fileOf pool4 1 #[] #[] 1537 3 #[] #[])
  fields := #[]
  methods := #[]
  instanceTypes := #[]
  staticTypes := #[]
  resolved := Array.replicate 7 none
  statics := none }

def pool5 : Array CpInfo := pool [(1, u "java/io/Serializable"), (0, .class_ 1), (0, u "java/lang/Object"), (0, .class_ 3)] 3

/-- java/io/Serializable -/
def k5 : Class := { plain "java/io/Serializable" (some 0) with
  accessFlags := 1537
  interfaces := #[]
  cf := some (fileOf pool5 2 #[] #[] 1537 4 #[] #[])
  fields := #[]
  methods := #[]
  instanceTypes := #[]
  staticTypes := #[]
  resolved := Array.replicate 8 none
  statics := none }

/-- the primitive byte -/
def k6 : Class := { plain "byte" none with kind := .primitive 'B', accessFlags := 0x411 }
/-- [B -/
def k7 : Class := { plain "[B" (some 0) with kind := .array 6 .byte, interfaces := #[4, 5], accessFlags := 1041 }

/-- the primitive int -/
def k8 : Class := { plain "int" none with kind := .primitive 'I', accessFlags := 0x411 }
/-- [I -/
def k9 : Class := { plain "[I" (some 0) with kind := .array 8 .int, interfaces := #[4, 5], accessFlags := 1041 }

def heap : Heap := #[]
def classes : Array Class := #[k0, k1, k2, k3, k4, k5, k6, k7, k8, k9]
def interned : List (Array UInt16 × Addr) := []
def slotsUsed : Nat := 0
def theMethod : MethodId := ⟨1, 1⟩
def args0 : Array Value := #[.int 2, .int 5, .int 6]
def aboutOver (below : List Frame) : State where
  vm := { classes := classes, interned := interned.toArray }
  heap := heap
  slotsUsed := slotsUsed
  threads := #[{ frames := .invoking theMethod args0 :: below }]
def below0 : List Frame := [.native { method := ⟨0, 0⟩, args := #[] }]
def about1 : State := aboutOver below0
def p0 : Program := .bare "" "" ""
def e0 : Env := launch0.env 0 0 0
theorem w_frames : about1.frames = Frame.invoking theMethod args0 :: below0 := rfl
set_option maxRecDepth 65536 in
theorem w_args : argsFit about1.vm theMethod args0 = true := by decide +kernel
set_option maxRecDepth 65536 in
theorem w_heap : heapFits about1 = true := by decide +kernel
set_option maxRecDepth 65536 in
theorem w_runnable : about1.curStatus? = some .runnable := by decide +kernel
set_option maxRecDepth 65536 in
theorem w_alone : about1.alone = true := by decide +kernel
set_option maxRecDepth 65536 in
theorem w_named : about1.methodNamed? x = some theMethod := by decide +kernel
set_option maxRecDepth 65536 in
theorem w_hears : about1.hears theMethod below0 = true := by decide +kernel
set_option maxRecDepth 65536 in
theorem w_ripe : about1.ripe theMethod args0 below0 = true := by decide +kernel
theorem w_running : about1.status = .running := rfl
set_option maxRecDepth 65536 in
theorem w_room : about1.hasRoom e0.platform room_1 = true :=
  launch0.hasRoom_least _ room_1 (by decide +kernel) (by decide +kernel) (by decide +kernel) (by decide +kernel) (by decide +kernel) (by decide +kernel)
theorem allAtoms_all (ts : List Jvm.Cond) (a : Array Jvm.Value) (st : Jvm.State) : (allAtoms ts).before a st = ts.all (fun c => c.before a st) := by
  induction ts with
  | nil => rfl
  | cons c t ih =>
    show (Jvm.Cond.and c (allAtoms t)).before a st = _
    rw [Jvm.Cond.before_and, ih, List.all_cons]
def words1 : List Jvm.Cond := Jvm.Cond.code x code maxLocals ret :: tables_1
/-- a 'code' word, met by the world's own term for the bytes: nothing is compared byte by byte -/
theorem code_word {y : MethodName} {bytes : ByteArray} {mx : Nat} {rt : Option FieldType} {a : Array Value} {s : State} {m : MethodId} {meth : Method} {c : Code} (h1 : s.methodNamed? y = some m) (h2 : s.vm.method? m = some meth) (h3 : meth.code = some c) (h4 : c.code = bytes)
    (h5 : (c.maxLocals == mx && c.exceptionTable.isEmpty && decide (c.maxStack ≤ mostOperands) && decide (meth.sig.returnType = rt) && !meth.locks && decide (parseMethodDescriptor y.desc = some meth.sig)) = true) : (Jvm.Cond.code y bytes mx rt).before a s = true := by
  simp only [Bool.and_eq_true, beq_iff_eq, Bool.not_eq_true', decide_eq_true_eq] at h5
  obtain ⟨⟨⟨⟨⟨g1, g2⟩, g3⟩, g4⟩, g5⟩, g6⟩ := h5
  simp [Cond.before, Cond.holds, Cond.value, h1, h2, h3, h4, g1, g2, g3, g4, g5, g6]
def isCode : Jvm.Cond → Bool
  | .code _ _ _ _ => true
  | _ => false
theorem all_split {L : List Jvm.Cond} {P : Jvm.Cond → Bool} (h1 : L.all (fun c => isCode c || P c) = true) (h2 : ∀ c ∈ L.filter isCode, P c = true) : L.all P = true := by
  refine List.all_eq_true.mpr fun c hc => ?_
  have h := List.all_eq_true.mp h1 c hc
  rcases Bool.eq_false_or_eq_true (isCode c) with hi | hi
  · exact h2 c (List.mem_filter.mpr ⟨hc, hi⟩)
  · simpa [hi] using h
set_option maxRecDepth 65536 in
theorem w_c0 : (Jvm.Cond.code x code maxLocals ret).before args0 about1 = true := code_word (m := ⟨1, 1⟩) (meth := k1m1) (c := k1c1) (by decide +kernel) rfl rfl rfl (by decide +kernel)
set_option maxRecDepth 65536 in
theorem w_c1 : (Jvm.Cond.code ({ cls := "com/example/portunus/portunus/Atom", name := "<init>", desc := "([B)V" } : Jvm.MethodName) prog_2_method_1_code (2 : Nat) (Option.none : Option Jvm.ClassFile.FieldType)).before args0 about1 = true := code_word (m := ⟨3, 0⟩) (meth := k3m0) (c := k3c0) (by decide +kernel) rfl rfl rfl (by decide +kernel)
set_option maxRecDepth 65536 in
theorem w_c2 : (Jvm.Cond.code ({ cls := "java/lang/Object", name := "<init>", desc := "()V" } : Jvm.MethodName) object_method_1_code (1 : Nat) (Option.none : Option Jvm.ClassFile.FieldType)).before args0 about1 = true := code_word (m := ⟨0, 0⟩) (meth := k0m0) (c := k0c0) (by decide +kernel) rfl rfl rfl (by decide +kernel)
set_option maxRecDepth 65536 in
theorem w_c3 : (Jvm.Cond.code ({ cls := "com/example/portunus/portunus/Atom", name := "canonicalLength", desc := "()I" } : Jvm.MethodName) prog_2_method_7_code (1 : Nat) (Option.some Jvm.ClassFile.FieldType.int)).before args0 about1 = true := code_word (m := ⟨3, 1⟩) (meth := k3m1) (c := k3c1) (by decide +kernel) rfl rfl rfl (by decide +kernel)
set_option maxRecDepth 65536 in
theorem w_c4 : (Jvm.Cond.code ({ cls := "com/example/portunus/portunus/Atom", name := "digits", desc := "(I)I" } : Jvm.MethodName) prog_2_method_14_code (3 : Nat) (Option.some Jvm.ClassFile.FieldType.int)).before args0 about1 = true := code_word (m := ⟨3, 2⟩) (meth := k3m2) (c := k3c2) (by decide +kernel) rfl rfl rfl (by decide +kernel)
def codes1 : List Jvm.Cond := [Jvm.Cond.code x code maxLocals ret, Jvm.Cond.code ({ cls := "com/example/portunus/portunus/Atom", name := "<init>", desc := "([B)V" } : Jvm.MethodName) prog_2_method_1_code (2 : Nat) (Option.none : Option Jvm.ClassFile.FieldType), Jvm.Cond.code ({ cls := "java/lang/Object", name := "<init>", desc := "()V" } : Jvm.MethodName) object_method_1_code (1 : Nat) (Option.none : Option Jvm.ClassFile.FieldType), Jvm.Cond.code ({ cls := "com/example/portunus/portunus/Atom", name := "canonicalLength", desc := "()I" } : Jvm.MethodName) prog_2_method_7_code (1 : Nat) (Option.some Jvm.ClassFile.FieldType.int), Jvm.Cond.code ({ cls := "com/example/portunus/portunus/Atom", name := "digits", desc := "(I)I" } : Jvm.MethodName) prog_2_method_14_code (3 : Nat) (Option.some Jvm.ClassFile.FieldType.int)]
set_option maxRecDepth 65536 in
theorem codes_eq : words1.filter isCode = codes1 := rfl
theorem w_codes : ∀ c ∈ words1.filter isCode, c.before args0 about1 = true := by
  rw [codes_eq]
  intro c hc
  simp only [codes1, List.mem_cons, List.not_mem_nil, or_false] at hc
  rcases hc with rfl | rfl | rfl | rfl | rfl
  · exact w_c0
  · exact w_c1
  · exact w_c2
  · exact w_c3
  · exact w_c4
set_option maxRecDepth 65536 in
theorem w_t1 : (words1.take 24).all (fun c => isCode c || c.before args0 about1) = true := by decide +kernel
set_option maxRecDepth 65536 in
theorem w_t2 : (words1.drop 24).all (fun c => isCode c || c.before args0 about1) = true := by decide +kernel
theorem w_tables : (allAtoms (Jvm.Cond.code x code maxLocals ret :: tables_1)).before args0 about1 = true := by
  rw [allAtoms_all]
  show words1.all (fun c => c.before args0 about1) = true
  refine all_split ?_ w_codes
  rw [← List.take_append_drop 24 words1, List.all_append, w_t1, w_t2]
  rfl
set_option maxRecDepth 65536 in
theorem w_case : (Jvm.Cond.and given_1 narrow_1).before args0 about1 = true := by decide +kernel
theorem w_applies : (headSpec (Jvm.Cond.code x code maxLocals ret :: tables_1) room_1).applies x e0.platform about1 = true :=
  (Spec.applies_iff w_frames).mpr ⟨w_running, w_runnable, w_alone, w_named, w_hears, w_ripe, w_room, w_tables⟩
theorem atStart : AtStart classFile x code maxLocals ret World_1 tables_1 room_1 Calls_1 rest_1 Pre_1 launch0 p0 e0 about1 theMethod args0 below0 :=
  ⟨lists_1, trivial, launch0.admits_env _ _ _, launch0.least_env, fairChoices_fair.cas, fairChoices_fair.clock, w_frames, w_args, w_heap, w_applies, trivial, trivial, w_case⟩
end start1
theorem witness_1 : WitnessClaimed_1 := ⟨start1.p0, start1.e0, start1.about1, start1.theMethod, start1.args0, start1.below0, start1.atStart⟩
end Jvm.Pilot.@@N@@
