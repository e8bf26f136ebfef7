import JvmDerived
import JvmDerived.Pilot.@@N@@Statement
import JvmDerived.Pilot.@@N@@Code
set_option linter.unusedVariables false
set_option linter.unusedSimpArgs false
namespace Jvm.Pilot.@@N@@
open Jvm Jvm.ClassFile Sem Op Lib Jvm.Free Jvm.Stand Jvm.LawKit Jvm.RoadKit Bundle Jvm.Pilot.@@N@@.Jvm.D
/-! own_Go: from t the run comes to a state where G holds. A walk is written backwards from the goal, so that a case split may stand anywhere. -/
def own_Go (p : Program) (e : Env) (below : List Frame) (G : State → Prop) (t : State) : Prop := ∃ u, Steps p.tables e below t u ∧ G u
theorem own_st {p : Program} {e : Env} {below : List Frame} {G : State → Prop} {t u : State} (f : ∀ w, Steps p.tables e below u w → Steps p.tables e below t w) (k : own_Go p e below G u) : own_Go p e below G t := by
  obtain ⟨w, s, g⟩ := k
  exact ⟨w, f w s, g⟩
theorem own_jp {p : Program} {e : Env} {below : List Frame} {G : State → Prop} {t u : State} (f : Steps p.tables e below t u) (k : own_Go p e below G u) : own_Go p e below G t := by
  obtain ⟨w, s, g⟩ := k
  exact ⟨w, f.trans s, g⟩
theorem own_out {p : Program} {e : Env} {below : List Frame} {t : State} {Q : Outcome → State → Prop} (k : own_Go p e below (fun u => ∃ o, u.status = .running ∧ Ended u below o ∧ Q o u) t) : ∃ s₂ o, Steps p.tables e below t s₂ ∧ s₂.status = .running ∧ Ended s₂ below o ∧ Q o s₂ := by
  obtain ⟨w, s, o, g⟩ := k
  exact ⟨w, o, s, g⟩
theorem own_nm {p : Program} {e : Env} {below : List Frame} {G0 : State → Prop} {t : State} (k : ∀ G, G = G0 → own_Go p e below G t) : own_Go p e below G0 t := k _ rfl
theorem own_tll {x y : Int64} (h : x < y) : lcmpW x y < 0 := (lw_lt x y).mpr h
theorem own_fll {x y : Int64} (h : ¬ x < y) : ¬ lcmpW x y < 0 := fun q => h ((lw_lt x y).mp q)
theorem own_tlg {x y : Int64} (h : y < x) : 0 < lcmpW x y := (lw_gt x y).mpr h
theorem own_flg {x y : Int64} (h : ¬ y < x) : ¬ 0 < lcmpW x y := fun q => h ((lw_gt x y).mp q)
theorem own_tle {x y : Int64} (h : x = y) : lcmpW x y = 0 := (lw_eq x y).mpr h
theorem own_fle {x y : Int64} (h : ¬ x = y) : ¬ lcmpW x y = 0 := fun q => h ((lw_eq x y).mp q)
section Own
variable {p : Program} {l : Launch} {e : Env} {R : Room} {s : State} {m : MethodId} {args : Array Value} {below : List Frame} {meth : Method} {c : Code} {T : State} {locs : List Loc} {cells slots : Nat} {Z : State} {h h' : Heap} {a b : Addr} {ty : FieldType} {vs : List Value} {v : Value}
theorem own_retI (X : Stand p l e R s m args below meth c T locs cells slots) (hx : p.tables.exec = Jvm.exec) {pc : Nat} {Ls : Array Slot} {z : Int32} {rest : List Value} (hret : meth.sig.returnType = some .int) (hd : decode c.code pc = .ok (.ireturn, 1)) {fs : List Frame}
    (hl : ∀ (f : JFrame) (acts : List Action), f.method = m → f.locked = none → f.entered = [] → (doReturn e (T.setTop f) acts (some (.int z))).1 = T.setFrames fs) : Steps p.tables e below (T.setTop (mkF m pc Ls (.int z :: rest))) (T.setFrames fs) :=
  retOut X hx hret rfl (Or.inl ⟨rfl, Or.inl rfl, z, rfl⟩) hd hl
theorem own_retJ (X : Stand p l e R s m args below meth c T locs cells slots) (hx : p.tables.exec = Jvm.exec) {pc : Nat} {Ls : Array Slot} {z : Int64} {rest : List Value} (hret : meth.sig.returnType = some .long) (hd : decode c.code pc = .ok (.lreturn, 1)) {fs : List Frame}
    (hl : ∀ (f : JFrame) (acts : List Action), f.method = m → f.locked = none → f.entered = [] → (doReturn e (T.setTop f) acts (some (.long z))).1 = T.setFrames fs) : Steps p.tables e below (T.setTop (mkF m pc Ls (.long z :: rest))) (T.setFrames fs) :=
  retOut X hx hret rfl (Or.inr (Or.inl ⟨rfl, rfl, z, rfl⟩)) hd hl
/-! own_L: the array at a holds just the list vs -/
def own_L (Z : State) (h : Heap) (a : Addr) (ty : FieldType) (vs : List Value) : Prop := ∃ cl : Cell, Arr Z h a cl ty ∧ cl.slots = vs.toArray
theorem own_L.lt (F : own_L Z h a ty vs) : a < h.size := by obtain ⟨cl, A, -⟩ := F; exact A.lt
theorem own_L.ext (F : own_L Z h a ty vs) (E : Ext h h') : own_L Z h' a ty vs := by obtain ⟨cl, A, q⟩ := F; exact ⟨cl, A.ext E, q⟩
theorem own_L.other {sl : Nat} (F : own_L Z h b ty vs) (W : Wr h h' a sl v) (q : b ≠ a) : own_L Z h' b ty vs := by obtain ⟨cl, A, r⟩ := F; exact ⟨cl, A.other W q, r⟩
theorem own_L.keep {ws : List Addr} (F : own_L Z h a ty vs) (K : Keep h h' ws) (q : a ∉ ws) : own_L Z h' a ty vs := by obtain ⟨cl, A, r⟩ := F; exact ⟨cl, ⟨K.2.1 a cl A.1 q, A.2⟩, r⟩
theorem own_L.new {k : ClassId} {z : Int32} (A : Arr Z h a (newA k ty z) ty) : own_L Z h a ty (List.replicate z.toNatClampNeg (defaultValue ty)) := ⟨_, A, by simp [newA]⟩
theorem own_L.same {k : Nat} (F : own_L Z h a ty vs) (W : Wr h h' a k v) : own_L Z h' a ty (vs.set k v) := by
  obtain ⟨cl, A, q⟩ := F
  exact ⟨_, A.same W, by simp [Cell.setSlot, q]⟩
theorem own_in {cl : Cell} {j : Int32} (q : cl.slots = vs.toArray) (h1 : ¬ j < 0) (h2 : j.toNatClampNeg < vs.length) : ¬ (j < 0 ∨ cl.slots.size ≤ j.toNatClampNeg) := by
  rw [q]
  rintro (r | r)
  · exact h1 r
  · simp at r; omega
theorem own_at {cl : Cell} {k : Nat} (q : cl.slots = vs.toArray) (hv : vs[k]? = some v) : cl.slots[k]? = some v := by rw [q]; simpa using hv
theorem own_lt {k : Nat} (hv : vs[k]? = some v) : k < vs.length := by
  obtain ⟨q, -⟩ := List.getElem?_eq_some_iff.mp hv
  exact q
theorem own_bld (X : Stand p l e R s m args below meth c T locs cells slots) (hx : p.tables.exec = Jvm.exec) (hZ : Z.Warmed39 s.vm) (eT : T.heap = h) (F : own_L Z h a .byte vs) {j : Int32} {i : Nat} (h1 : ¬ j < 0) (hi : j.toNatClampNeg = i) (hv : vs[i]? = some v) {g : JFrame} (hg : g.method = m) {rest : List Value} (hs : g.stack = .int j :: .ref a :: rest) (hd : decode c.code g.pc = .ok (.baload, 1)) :
    ∀ target, Steps p.tables e below (T.setTop { g with pc := g.pc + 1, stack := v :: rest }) target → Steps p.tables e below (T.setTop g) target := by
  obtain ⟨cl, A, q⟩ := F
  subst hi
  exact X.baloadBytes hx (by rw [eT]; exact A.1) (State.isArrayOf_alike hZ.alike A.2.1) A.2.2 (own_in q h1 (own_lt hv)) (own_at q hv) hg hs hd
theorem own_jld (X : Stand p l e R s m args below meth c T locs cells slots) (hx : p.tables.exec = Jvm.exec) (hZ : Z.Warmed39 s.vm) (eT : T.heap = h) (F : own_L Z h a .long vs) {j : Int32} {i : Nat} (h1 : ¬ j < 0) (hi : j.toNatClampNeg = i) (hv : vs[i]? = some v) {g : JFrame} (hg : g.method = m) {rest : List Value} (hs : g.stack = .int j :: .ref a :: rest) (hd : decode c.code g.pc = .ok (.laload, 1)) :
    ∀ target, Steps p.tables e below (T.setTop { g with pc := g.pc + 1, stack := v :: rest }) target → Steps p.tables e below (T.setTop g) target := by
  obtain ⟨cl, A, q⟩ := F
  subst hi
  exact X.laload hx (by rw [eT]; exact A.1) (State.isArrayOf_alike hZ.alike A.2.1) A.2.2 (own_in q h1 (own_lt hv)) (own_at q hv) hg hs hd
theorem own_ild (X : Stand p l e R s m args below meth c T locs cells slots) (hx : p.tables.exec = Jvm.exec) (hZ : Z.Warmed39 s.vm) (eT : T.heap = h) (F : own_L Z h a .int vs) {j : Int32} {i : Nat} (h1 : ¬ j < 0) (hi : j.toNatClampNeg = i) (hv : vs[i]? = some v) {g : JFrame} (hg : g.method = m) {rest : List Value} (hs : g.stack = .int j :: .ref a :: rest) (hd : decode c.code g.pc = .ok (.iaload, 1)) :
    ∀ target, Steps p.tables e below (T.setTop { g with pc := g.pc + 1, stack := v :: rest }) target → Steps p.tables e below (T.setTop g) target := by
  obtain ⟨cl, A, q⟩ := F
  subst hi
  exact X.iaload hx (by rw [eT]; exact A.1) (State.isArrayOf_alike hZ.alike A.2.1) A.2.2 (own_in q h1 (own_lt hv)) (own_at q hv) hg hs hd
theorem own_zld (X : Stand p l e R s m args below meth c T locs cells slots) (hx : p.tables.exec = Jvm.exec) (hZ : Z.Warmed39 s.vm) (eT : T.heap = h) (F : own_L Z h a .boolean vs) {j : Int32} {i : Nat} (h1 : ¬ j < 0) (hi : j.toNatClampNeg = i) (hv : vs[i]? = some v) {g : JFrame} (hg : g.method = m) {rest : List Value} (hs : g.stack = .int j :: .ref a :: rest) (hd : decode c.code g.pc = .ok (.baload, 1)) :
    ∀ target, Steps p.tables e below (T.setTop { g with pc := g.pc + 1, stack := v :: rest }) target → Steps p.tables e below (T.setTop g) target := by
  obtain ⟨cl, A, q⟩ := F
  subst hi
  exact X.baloadBooleans hx (by rw [eT]; exact A.1) (State.isArrayOf_alike hZ.alike A.2.1) A.2.2 (own_in q h1 (own_lt hv)) (own_at q hv) hg hs hd
theorem own_len (X : Stand p l e R s m args below meth c T locs cells slots) (hx : p.tables.exec = Jvm.exec) (hZ : Z.Warmed39 s.vm) (eT : T.heap = h) (F : own_L Z h a ty vs) {z : Int32} (hz : vs.length.toInt32 = z) {g : JFrame} (hg : g.method = m) {rest : List Value} (hs : g.stack = .ref a :: rest) (hd : decode c.code g.pc = .ok (.arraylength, 1)) :
    ∀ target, Steps p.tables e below (T.setTop { g with pc := g.pc + 1, stack := .int z :: rest }) target → Steps p.tables e below (T.setTop g) target := by
  obtain ⟨cl, A, q⟩ := F
  intro w k
  refine X.arraylength hx (by rw [eT]; exact A.1) (State.isArrayOf_alike hZ.alike A.2.1) hg hs hd w ?_
  have q2 : cl.slots.size.toInt32 = z := by rw [← hz, q]; simp
  rw [q2]; exact k
theorem own_bst (X : Stand p l e R s m args below meth c T locs cells slots) (hx : p.tables.exec = Jvm.exec) (hZ : Z.Warmed39 s.vm) (eT : T.heap = h) (F : own_L Z h a .byte vs) {j x : Int32} (i : Nat) (h1 : ¬ j < 0) (hi : j.toNatClampNeg = i) (h2 : i < vs.length) {g : JFrame} (hg : g.method = m) {rest : List Value} (hs : g.stack = .int x :: .int j :: .ref a :: rest) (hd : decode c.code g.pc = .ok (.bastore, 1)) :
    ∃ T' h', Stand p l e R s m args below meth c T' (locs ++ [⟨a, i⟩]) cells slots ∧ T'.heap = h' ∧ Wr h h' a i (.int x.toInt8.toInt32) ∧ own_L Z h' a .byte (vs.set i (.int x.toInt8.toInt32)) ∧ ∀ target, Steps p.tables e below (T'.setTop { g with pc := g.pc + 1, stack := rest }) target → Steps p.tables e below (T.setTop g) target := by
  obtain ⟨cl, A, q⟩ := F
  subst hi
  obtain ⟨T', h', X', e', W, st⟩ := stB X hx hZ eT A (own_in q h1 h2) hg hs hd
  exact ⟨T', h', X', e', W, own_L.same ⟨cl, A, q⟩ W, st⟩
theorem own_zst (X : Stand p l e R s m args below meth c T locs cells slots) (hx : p.tables.exec = Jvm.exec) (hZ : Z.Warmed39 s.vm) (eT : T.heap = h) (F : own_L Z h a .boolean vs) {j x : Int32} (i : Nat) (h1 : ¬ j < 0) (hi : j.toNatClampNeg = i) (h2 : i < vs.length) {g : JFrame} (hg : g.method = m) {rest : List Value} (hs : g.stack = .int x :: .int j :: .ref a :: rest) (hd : decode c.code g.pc = .ok (.bastore, 1)) :
    ∃ T' h', Stand p l e R s m args below meth c T' (locs ++ [⟨a, i⟩]) cells slots ∧ T'.heap = h' ∧ Wr h h' a i (.int (x &&& 1)) ∧ own_L Z h' a .boolean (vs.set i (.int (x &&& 1))) ∧ ∀ target, Steps p.tables e below (T'.setTop { g with pc := g.pc + 1, stack := rest }) target → Steps p.tables e below (T.setTop g) target := by
  obtain ⟨cl, A, q⟩ := F
  subst hi
  obtain ⟨T', h', X', e', W, st⟩ := stZ X hx hZ eT A (own_in q h1 h2) hg hs hd
  exact ⟨T', h', X', e', W, own_L.same ⟨cl, A, q⟩ W, st⟩
theorem own_jst (X : Stand p l e R s m args below meth c T locs cells slots) (hx : p.tables.exec = Jvm.exec) (hZ : Z.Warmed39 s.vm) (eT : T.heap = h) (F : own_L Z h a .long vs) {j : Int32} {x : Int64} (i : Nat) (h1 : ¬ j < 0) (hi : j.toNatClampNeg = i) (h2 : i < vs.length) {g : JFrame} (hg : g.method = m) {rest : List Value} (hs : g.stack = .long x :: .int j :: .ref a :: rest) (hd : decode c.code g.pc = .ok (.lastore, 1)) :
    ∃ T' h', Stand p l e R s m args below meth c T' (locs ++ [⟨a, i⟩]) cells slots ∧ T'.heap = h' ∧ Wr h h' a i (.long x) ∧ own_L Z h' a .long (vs.set i (.long x)) ∧ ∀ target, Steps p.tables e below (T'.setTop { g with pc := g.pc + 1, stack := rest }) target → Steps p.tables e below (T.setTop g) target := by
  obtain ⟨cl, A, q⟩ := F
  subst hi
  obtain ⟨T', h', X', e', W, st⟩ := stJ X hx hZ eT A (own_in q h1 h2) hg hs hd
  exact ⟨T', h', X', e', W, own_L.same ⟨cl, A, q⟩ W, st⟩
theorem own_ist (X : Stand p l e R s m args below meth c T locs cells slots) (hx : p.tables.exec = Jvm.exec) (hZ : Z.Warmed39 s.vm) (eT : T.heap = h) (F : own_L Z h a .int vs) {j x : Int32} (i : Nat) (h1 : ¬ j < 0) (hi : j.toNatClampNeg = i) (h2 : i < vs.length) {g : JFrame} (hg : g.method = m) {rest : List Value} (hs : g.stack = .int x :: .int j :: .ref a :: rest) (hd : decode c.code g.pc = .ok (.iastore, 1)) :
    ∃ T' h', Stand p l e R s m args below meth c T' (locs ++ [⟨a, i⟩]) cells slots ∧ T'.heap = h' ∧ Wr h h' a i (.int x) ∧ own_L Z h' a .int (vs.set i (.int x)) ∧ ∀ target, Steps p.tables e below (T'.setTop { g with pc := g.pc + 1, stack := rest }) target → Steps p.tables e below (T.setTop g) target := by
  obtain ⟨cl, A, q⟩ := F
  subst hi
  obtain ⟨T', h', X', e', W, st⟩ := stI X hx hZ eT A (own_in q h1 h2) hg hs hd
  exact ⟨T', h', X', e', W, own_L.same ⟨cl, A, q⟩ W, st⟩
theorem own_clone (X : Stand p l e R s m args below meth c T locs cells slots) (hx : p.tables.exec = Jvm.exec) (hZ : Z.Warmed39 s.vm) {a0 : Array Value} {own ad : String} {index : Nat} (hown : s.vm.findClass own = some m.cls)
    (w1 : (Cond.methodLink own index ⟨ad, "clone", "()Ljava/lang/Object;"⟩).before a0 Z = true) (w2 : (Cond.sameMethod ad "java/lang/Object" "clone" "()Ljava/lang/Object;").before a0 Z = true) (w3 : (Cond.native ⟨"java/lang/Object", "clone", "()Ljava/lang/Object;"⟩).before a0 Z = true)
    (w4 : (Cond.instanceMethod ⟨"java/lang/Object", "clone", "()Ljava/lang/Object;"⟩).before a0 Z = true) (w5 : (Cond.selects ad ⟨ad, "clone", "()Ljava/lang/Object;"⟩ ⟨"java/lang/Object", "clone", "()Ljava/lang/Object;"⟩).before a0 Z = true) (w6 : (Cond.castable ad "java/lang/Cloneable").before a0 Z = true)
    (eT : T.heap = h) (F : own_L Z h a ty vs) (E : Exa Z h a ad) (hfit : ∀ v ∈ vs, fits ty v = true) {g : JFrame} (hg : g.method = m) (hsize : g.locals.size = c.maxLocals) {rest : List Value} (hs : g.stack = .ref a :: rest) (hd : decode c.code g.pc = .ok (.invokevirtual index, 3))
    (hf : 1 ≤ R.frames) {W cap : Nat} (hW : 2 * g.monitorRoom + (rest.map fun v => v.category).sum ≤ W) (hl : W + 14 ≤ R.locals) (hcap : vs.length ≤ cap) (hc : cells + 1 ≤ R.cells) (hsl : slots + cap ≤ R.slots) :
    ∃ T' h', Stand p l e R s m args below meth c T' locs (cells + 1) (slots + cap) ∧ T'.heap = h' ∧ Ext h h' ∧ own_L Z h' h.size ty vs ∧ Exa Z h' h.size ad ∧
      ∀ target, Steps p.tables e below (T'.setTop { g with pc := g.pc + 3, stack := .ref h.size :: rest }) target → Steps p.tables e below (T.setTop g) target := by
  obtain ⟨cl, A, q⟩ := F
  have FC : FitC Z cl := fitC_of A fun i hi v hv => hfit v (by
    rw [q] at hv
    exact List.mem_of_getElem? (by simpa using hv))
  obtain ⟨T', h', X', e', ex, A', E', st⟩ := cloneA X hx hZ hown w1 w2 w3 w4 w5 w6 eT A E FC hg hsize hs hd hf hW hl (by rw [q]; simpa using hcap) hc hsl
  exact ⟨T', h', X', e', ex, ⟨cloneOf cl, A', q⟩, E', st⟩
end Own
theorem own_nn {i : Int32} {n : Nat} (h : i.toInt = n) : ¬ i < 0 := by
  have z0 : (0 : Int32).toInt = 0 := by decide
  rw [Int32.lt_iff_toInt_lt, z0]; omega
theorem own_nat {i : Int32} {n : Nat} (h : i.toInt = n) : i.toNatClampNeg = n := by
  show i.toInt.toNat = n
  omega
theorem own_up {i : Int32} {n : Nat} (h : i.toInt = n) (hn : n < 2147483647) : (i + (1 : Int32)).toInt = (n + 1 : Nat) := by
  have h1 := c_iadd i 1
  have r1 := rng32 (i + 1)
  have z1 : (1 : Int32).toInt = 1 := by decide
  rw [z1] at h1
  omega
theorem own_ltn {i j : Int32} {n k : Nat} (h : i.toInt = n) (h' : j.toInt = k) (hc : i < j) : n < k := by rw [Int32.lt_iff_toInt_lt] at hc; omega
theorem own_gen {i j : Int32} {n k : Nat} (h : i.toInt = n) (h' : j.toInt = k) (hc : ¬ i < j) : k - n = 0 := by rw [Int32.lt_iff_toInt_lt] at hc; omega
theorem own_of {i : Int32} {n : Nat} (h : i.toInt = n) : i = Int32.ofNat n := by
  have := rng32 i
  apply Int32.toInt_inj.mp
  rw [Int32.toInt_ofNat_of_lt (by omega)]; exact h
/-! a list of ints as an array's values -/
def own_bl (B : Nat → Int32) (n : Nat) : List Value := (List.range n).map fun j => .int (B j)
theorem own_bl_at (B : Nat → Int32) {n k : Nat} (hk : k < n) : (own_bl B n)[k]? = some (.int (B k)) := by simp [own_bl, hk]
theorem own_bl_len (B : Nat → Int32) (n : Nat) : (own_bl B n).length = n := by simp [own_bl]
def own_ov : List Int32 → List Int32 → Int32
  | [], _ => 0
  | _ :: _, [] => 0
  | x :: xs, y :: ys => if x = y then 1 else if x < y then own_ov xs (y :: ys) else own_ov (x :: xs) ys
termination_by a b => a.length + b.length
def own_ix (uL uH lo hi : Int32) : List Int32 := (if uL = (0 : Int32) then (if uH = (0 : Int32) then [] else [hi]) else (if uH = (0 : Int32) then [lo] else [lo, hi]))
def own_P (aL aH bL bH la ha lb hb : Int32) : Prop := (¬ (aL = 0) ∧ ((¬ (bL = 0) ∧ la = lb) ∨ (¬ (bH = 0) ∧ la = hb))) ∨ (¬ (aH = 0) ∧ ((¬ (bL = 0) ∧ ha = lb) ∨ (¬ (bH = 0) ∧ ha = hb)))
theorem own_ov_nil (x : List Int32) : own_ov x [] = 0 := by cases x <;> simp [own_ov]
theorem own_ov0 (y : List Int32) : own_ov [] y = 0 := by simp [own_ov]
theorem own_ov_cons (x y : Int32) (xs ys : List Int32) : own_ov (x :: xs) (y :: ys) = if x = y then 1 else if x < y then own_ov xs (y :: ys) else own_ov (x :: xs) ys := by rw [own_ov]
theorem own_plain {aL aH bL bH la ha lb hb e : Int32} (h1 : ¬ (aL = 0) → ¬ (aH = 0) → la < ha) (h2 : ¬ (bL = 0) → ¬ (bH = 0) → lb < hb)
    (he : (e = 1 ∧ own_P aL aH bL bH la ha lb hb) ∨ (e = 0 ∧ ¬ own_P aL aH bL bH la ha lb hb)) : own_ov (own_ix aL aH la ha) (own_ix bL bH lb hb) = e := by
  unfold own_P at he
  unfold own_ix
  simp only [Int32.lt_iff_toInt_lt, ← Int32.toInt_inj (x := la), ← Int32.toInt_inj (x := ha)] at *
  by_cases q1 : aL = 0 <;> by_cases q2 : aH = 0 <;> by_cases q3 : bL = 0 <;> by_cases q4 : bH = 0 <;> simp only [q1, q2, q3, q4, if_true, if_false, not_true, not_false_iff, true_and, false_and, and_false, or_false, false_or, own_ov_nil, own_ov0, own_ov_cons, true_implies, false_implies, Int32.lt_iff_toInt_lt, ← Int32.toInt_inj (x := la), ← Int32.toInt_inj (x := ha)] at he h1 h2 ⊢
  all_goals (rcases he with ⟨rfl, he⟩ | ⟨rfl, he⟩)
  all_goals (try rfl)
  all_goals (repeat' split) <;> first | rfl | (exfalso; omega)
theorem own_Ps {aL aH bL bH la ha lb hb : Int32} : own_P aL aH bL bH la ha lb hb ↔ own_P bL bH aL aH lb hb la ha := by
  unfold own_P
  constructor
  · rintro (⟨h1, ⟨h2, h3⟩ | ⟨h2, h3⟩⟩ | ⟨h1, ⟨h2, h3⟩ | ⟨h2, h3⟩⟩)
    · exact Or.inl ⟨h2, Or.inl ⟨h1, h3.symm⟩⟩
    · exact Or.inr ⟨h2, Or.inl ⟨h1, h3.symm⟩⟩
    · exact Or.inl ⟨h2, Or.inr ⟨h1, h3.symm⟩⟩
    · exact Or.inr ⟨h2, Or.inr ⟨h1, h3.symm⟩⟩
  · rintro (⟨h1, ⟨h2, h3⟩ | ⟨h2, h3⟩⟩ | ⟨h1, ⟨h2, h3⟩ | ⟨h2, h3⟩⟩)
    · exact Or.inl ⟨h2, Or.inl ⟨h1, h3.symm⟩⟩
    · exact Or.inr ⟨h2, Or.inl ⟨h1, h3.symm⟩⟩
    · exact Or.inl ⟨h2, Or.inr ⟨h1, h3.symm⟩⟩
    · exact Or.inr ⟨h2, Or.inr ⟨h1, h3.symm⟩⟩
theorem own_plain2 {aL aH bL bH la ha lb hb e : Int32} (h1 : ¬ (aL = 0) → ¬ (aH = 0) → la < ha) (h2 : ¬ (bL = 0) → ¬ (bH = 0) → lb < hb)
    (he : (e = 1 ∧ own_P aL aH bL bH la ha lb hb) ∨ (e = 0 ∧ ¬ own_P aL aH bL bH la ha lb hb)) : own_ov (own_ix bL bH lb hb) (own_ix aL aH la ha) = e :=
  own_plain h2 h1 (he.imp (fun q => ⟨q.1, own_Ps.mp q.2⟩) (fun q => ⟨q.1, fun z => q.2 (own_Ps.mpr z)⟩))
def own_il (xs : List Int32) : List Value := xs.map Value.int
theorem own_il_len (xs : List Int32) : (own_il xs).length = xs.length := by simp [own_il]
theorem own_il_at {xs : List Int32} {k : Nat} {x : Int32} (h : xs[k]? = some x) : (own_il xs)[k]? = some (.int x) := by simp [own_il, h]
theorem own_drop {xs : List Int32} {k : Nat} (h : k < xs.length) : ∃ x, xs[k]? = some x ∧ xs.drop k = x :: xs.drop (k + 1) := ⟨xs[k], by simp [h], List.drop_eq_getElem_cons h⟩
theorem own_ix2 (a b c d : Int32) : (own_ix a b c d).length ≤ 2 := by
  unfold own_ix
  split <;> split <;> simp
theorem own_toi {k : Nat} (h : k ≤ 2) : (k.toInt32).toInt = k := len_toInt (by omega)
theorem own_geq {i j : Int32} {n k : Nat} (h : i.toInt = n) (h' : j.toInt = k) (hc : ¬ i < j) : k ≤ n := by rw [Int32.lt_iff_toInt_lt] at hc; omega
theorem d1_0 : decode jdk_29_method_69_code 0 = .ok (.iload_n 0, 1) := by decide +kernel
theorem d1_1 : decode jdk_29_method_69_code 1 = .ok (.iload_n 1, 1) := by decide +kernel
theorem d1_2 : decode jdk_29_method_69_code 2 = .ok (.if_icmp .gt 7, 3) := by decide +kernel
theorem d1_5 : decode jdk_29_method_69_code 5 = .ok (.iload_n 0, 1) := by decide +kernel
theorem d1_6 : decode jdk_29_method_69_code 6 = .ok (.goto 4, 3) := by decide +kernel
theorem d1_9 : decode jdk_29_method_69_code 9 = .ok (.iload_n 1, 1) := by decide +kernel
theorem d1_10 : decode jdk_29_method_69_code 10 = .ok (.ireturn, 1) := by decide +kernel
theorem ef_rm1 (m : MethodId) (u : Int32) (v : Int32) : entryFrame m #[(.int u), (.int v)] 2 = mkF m 0 #[.val (.int u), .val (.int v)] [] := by first | (simp [entryFrame, mkF, argsToLocals, Value.category]; done) | rfl
def own_mn (u : Int32) (v : Int32) : Int32 := (if v < u then v else u)
def Q1 (Z : State) (u : Int32) (v : Int32) (h0 : Heap) (n0 : Nat) (rv : Option Value) (hq : Heap) (Lq : List Loc) : Prop := rv = some (.int (own_mn u v)) ∧ Fr n0 Lq ∧ hq = h0
set_option maxRecDepth 65536 in
set_option maxHeartbeats 40000000 in
theorem rm1 (l : Launch) (Z : State) (a0 : Array Value) (hw : ∀ d ∈ tables_1, d.before a0 Z = true) (ws : List Jvm.Cond) (u : Int32) (v : Int32) (h0 : Heap) (n0 : Nat) (Z0 : n0 ≤ h0.size) :
    MetFree l (⟨"java/lang/Math", "min", "(II)I"⟩ : MethodName) (head1 (Jvm.Cond.code (⟨"java/lang/Math", "min", "(II)I"⟩ : MethodName) jdk_29_method_69_code 2 (some .int) :: ws) ({ frames := 0, cells := 0, slots := 0, locals := 0 } : Room)) (fun za U => za = #[(.int u), (.int v)] ∧ Z.Warmed39 U.vm ∧ U.heap = h0) (fun _ _ _ _ _ => True) (fun _ U o U' => ∃ rv Lq, o = .returned rv ∧ Q1 Z u v h0 n0 rv U'.heap Lq ∧ FrameEnd U o U' Lq ({ frames := 0, cells := 0, slots := 0, locals := 0 } : Room).cells ({ frames := 0, cells := 0, slots := 0, locals := 0 } : Room).slots) := by
  refine MetFree.of_bodySF (Jvm.Free.JP.mathPlain rfl (by decide +kernel)) hisR ?_
  intro p e s m args below meth c s₁ Bd hml0 hP hK
  obtain ⟨rfl, hZ, hh⟩ := hP
  have hx := Bd.exec
  have hby := Bd.bytes
  have hml : c.maxLocals = 2 := hml0
  have hown : s.vm.findClass "java/lang/Math" = some m.cls := findClass_of_methodNamed Bd.named
  have hnm := (name_of_methodNamed Bd.named Bd.method).1
  have X0 : Stand p l e ({ frames := 0, cells := 0, slots := 0, locals := 0 } : Room) s m #[(.int u), (.int v)] below meth c s₁ [] 0 0 := Stand.of_body Bd
  have e0 : s₁.heap = h0 := by rw [← hh, Bd.state]; rfl
  have N0 := Fr.nil n0
  refine own_out (own_nm fun G hG => own_st (fun zt zk => castTop (ef_rm1 m u v) zk) ?_)
  show own_Go p e below G (s₁.setTop (mkF m 0 #[.val (.int u), .val (.int v)] []))
  refine own_st (fun zw zk => XS.iloadN X0.here hx rfl (hb hby d1_0) rfl zk) ?_
  refine own_st (fun zw zk => XS.iloadN X0.here hx rfl (hb hby d1_1) rfl zk) ?_
  by_cases hc2 : v < u
  · refine own_st (fun zw zk => XS.icmpYes X0.here hx rfl (pc0 := 2) (pc' := 9) rfl (hb hby d1_2) rfl (tlt hc2).2.2.1 (by decide) (by decide) zk) ?_
    refine own_st (fun zw zk => XS.iloadN X0.here hx rfl (hb hby d1_9) rfl zk) ?_
    subst hG
    obtain ⟨fs, hr, hrun, hended, hW, hsame⟩ := X0.leave (v := some (.int v)) (fun h => by rw [Bd.returns] at h; cases h)
    refine ⟨_, own_retI X0 hx Bd.returns (hb hby d1_10) hr, _, hrun, hended, _, _, rfl, ?_, ⟨_, rfl⟩, hW, hsame.mono (by decide) (by decide)⟩
    show Q1 Z u v h0 n0 _ s₁.heap _
    rw [e0]
    exact ⟨by unfold own_mn; rw [if_pos hc2], N0, rfl⟩
  · refine own_st (fun zw zk => XS.icmpNo X0.here hx rfl (hb hby d1_2) rfl (flt hc2).2.2.1 zk) ?_
    refine own_st (fun zw zk => XS.iloadN X0.here hx rfl (hb hby d1_5) rfl zk) ?_
    refine own_st (fun zw zk => XS.goto X0.here hx rfl (pc0 := 6) (pc' := 10) rfl (hb hby d1_6) (by decide) (by decide) zk) ?_
    show own_Go p e below G (s₁.setTop (mkF m 10 #[.val (.int u), .val (.int v)] [(.int u)]))
    subst hG
    obtain ⟨fs, hr, hrun, hended, hW, hsame⟩ := X0.leave (v := some (.int u)) (fun h => by rw [Bd.returns] at h; cases h)
    refine ⟨_, own_retI X0 hx Bd.returns (hb hby d1_10) hr, _, hrun, hended, _, _, rfl, ?_, ⟨_, rfl⟩, hW, hsame.mono (by decide) (by decide)⟩
    show Q1 Z u v h0 n0 _ s₁.heap _
    rw [e0]
    exact ⟨by unfold own_mn; rw [if_neg hc2], N0, rfl⟩
theorem d2_0 : decode jdk_29_method_65_code 0 = .ok (.iload_n 0, 1) := by decide +kernel
theorem d2_1 : decode jdk_29_method_65_code 1 = .ok (.iload_n 1, 1) := by decide +kernel
theorem d2_2 : decode jdk_29_method_65_code 2 = .ok (.if_icmp .lt 7, 3) := by decide +kernel
theorem d2_5 : decode jdk_29_method_65_code 5 = .ok (.iload_n 0, 1) := by decide +kernel
theorem d2_6 : decode jdk_29_method_65_code 6 = .ok (.goto 4, 3) := by decide +kernel
theorem d2_9 : decode jdk_29_method_65_code 9 = .ok (.iload_n 1, 1) := by decide +kernel
theorem d2_10 : decode jdk_29_method_65_code 10 = .ok (.ireturn, 1) := by decide +kernel
theorem ef_rm2 (m : MethodId) (u : Int32) (v : Int32) : entryFrame m #[(.int u), (.int v)] 2 = mkF m 0 #[.val (.int u), .val (.int v)] [] := by first | (simp [entryFrame, mkF, argsToLocals, Value.category]; done) | rfl
def own_mx (u : Int32) (v : Int32) : Int32 := (if u < v then v else u)
def Q2 (Z : State) (u : Int32) (v : Int32) (h0 : Heap) (n0 : Nat) (rv : Option Value) (hq : Heap) (Lq : List Loc) : Prop := rv = some (.int (own_mx u v)) ∧ Fr n0 Lq ∧ hq = h0
set_option maxRecDepth 65536 in
set_option maxHeartbeats 40000000 in
theorem rm2 (l : Launch) (Z : State) (a0 : Array Value) (hw : ∀ d ∈ tables_1, d.before a0 Z = true) (ws : List Jvm.Cond) (u : Int32) (v : Int32) (h0 : Heap) (n0 : Nat) (Z0 : n0 ≤ h0.size) :
    MetFree l (⟨"java/lang/Math", "max", "(II)I"⟩ : MethodName) (head1 (Jvm.Cond.code (⟨"java/lang/Math", "max", "(II)I"⟩ : MethodName) jdk_29_method_65_code 2 (some .int) :: ws) ({ frames := 0, cells := 0, slots := 0, locals := 0 } : Room)) (fun za U => za = #[(.int u), (.int v)] ∧ Z.Warmed39 U.vm ∧ U.heap = h0) (fun _ _ _ _ _ => True) (fun _ U o U' => ∃ rv Lq, o = .returned rv ∧ Q2 Z u v h0 n0 rv U'.heap Lq ∧ FrameEnd U o U' Lq ({ frames := 0, cells := 0, slots := 0, locals := 0 } : Room).cells ({ frames := 0, cells := 0, slots := 0, locals := 0 } : Room).slots) := by
  refine MetFree.of_bodySF (Jvm.Free.JP.mathPlain rfl (by decide +kernel)) hisR ?_
  intro p e s m args below meth c s₁ Bd hml0 hP hK
  obtain ⟨rfl, hZ, hh⟩ := hP
  have hx := Bd.exec
  have hby := Bd.bytes
  have hml : c.maxLocals = 2 := hml0
  have hown : s.vm.findClass "java/lang/Math" = some m.cls := findClass_of_methodNamed Bd.named
  have hnm := (name_of_methodNamed Bd.named Bd.method).1
  have X0 : Stand p l e ({ frames := 0, cells := 0, slots := 0, locals := 0 } : Room) s m #[(.int u), (.int v)] below meth c s₁ [] 0 0 := Stand.of_body Bd
  have e0 : s₁.heap = h0 := by rw [← hh, Bd.state]; rfl
  have N0 := Fr.nil n0
  refine own_out (own_nm fun G hG => own_st (fun zt zk => castTop (ef_rm2 m u v) zk) ?_)
  show own_Go p e below G (s₁.setTop (mkF m 0 #[.val (.int u), .val (.int v)] []))
  refine own_st (fun zw zk => XS.iloadN X0.here hx rfl (hb hby d2_0) rfl zk) ?_
  refine own_st (fun zw zk => XS.iloadN X0.here hx rfl (hb hby d2_1) rfl zk) ?_
  by_cases hc2 : u < v
  · refine own_st (fun zw zk => XS.icmpYes X0.here hx rfl (pc0 := 2) (pc' := 9) rfl (hb hby d2_2) rfl (tlt hc2).1 (by decide) (by decide) zk) ?_
    refine own_st (fun zw zk => XS.iloadN X0.here hx rfl (hb hby d2_9) rfl zk) ?_
    subst hG
    obtain ⟨fs, hr, hrun, hended, hW, hsame⟩ := X0.leave (v := some (.int v)) (fun h => by rw [Bd.returns] at h; cases h)
    refine ⟨_, own_retI X0 hx Bd.returns (hb hby d2_10) hr, _, hrun, hended, _, _, rfl, ?_, ⟨_, rfl⟩, hW, hsame.mono (by decide) (by decide)⟩
    show Q2 Z u v h0 n0 _ s₁.heap _
    rw [e0]
    exact ⟨by unfold own_mx; rw [if_pos hc2], N0, rfl⟩
  · refine own_st (fun zw zk => XS.icmpNo X0.here hx rfl (hb hby d2_2) rfl (flt hc2).1 zk) ?_
    refine own_st (fun zw zk => XS.iloadN X0.here hx rfl (hb hby d2_5) rfl zk) ?_
    refine own_st (fun zw zk => XS.goto X0.here hx rfl (pc0 := 6) (pc' := 10) rfl (hb hby d2_6) (by decide) (by decide) zk) ?_
    show own_Go p e below G (s₁.setTop (mkF m 10 #[.val (.int u), .val (.int v)] [(.int u)]))
    subst hG
    obtain ⟨fs, hr, hrun, hended, hW, hsame⟩ := X0.leave (v := some (.int u)) (fun h => by rw [Bd.returns] at h; cases h)
    refine ⟨_, own_retI X0 hx Bd.returns (hb hby d2_10) hr, _, hrun, hended, _, _, rfl, ?_, ⟨_, rfl⟩, hW, hsame.mono (by decide) (by decide)⟩
    show Q2 Z u v h0 n0 _ s₁.heap _
    rw [e0]
    exact ⟨by unfold own_mx; rw [if_neg hc2], N0, rfl⟩
theorem pn_0 : plainName "com/example/netz/netz/net/SparseVectorOverlapsPinLaw" = true := by first | (simp [plainName, overriddenIn]; done) | decide +kernel
theorem d3_0 : decode method_2_code 0 = .ok (.iload_n 0, 1) := by decide +kernel
theorem d3_1 : decode method_2_code 1 = .ok (.iconst 1, 1) := by decide +kernel
theorem d3_2 : decode method_2_code 2 = .ok (.iand, 1) := by decide +kernel
theorem d3_3 : decode method_2_code 3 = .ok (.ifCond .eq 7, 3) := by decide +kernel
theorem d3_6 : decode method_2_code 6 = .ok (.iconst 1, 1) := by decide +kernel
theorem d3_7 : decode method_2_code 7 = .ok (.goto 4, 3) := by decide +kernel
theorem d3_10 : decode method_2_code 10 = .ok (.iconst 0, 1) := by decide +kernel
theorem d3_11 : decode method_2_code 11 = .ok (.ireturn, 1) := by decide +kernel
theorem ef_rm3 (m : MethodId) (u : Int32) : entryFrame m #[(.int u)] 1 = mkF m 0 #[.val (.int u)] [] := by first | (simp [entryFrame, mkF, argsToLocals, Value.category]; done) | rfl
def own_lo (u : Int32) : Int32 := (if (u &&& (1 : Int32)) = (0 : Int32) then (0 : Int32) else (1 : Int32))
def Q3 (Z : State) (u : Int32) (h0 : Heap) (n0 : Nat) (rv : Option Value) (hq : Heap) (Lq : List Loc) : Prop := rv = some (.int (own_lo u)) ∧ Fr n0 Lq ∧ hq = h0
set_option maxRecDepth 65536 in
set_option maxHeartbeats 40000000 in
theorem rm3 (l : Launch) (Z : State) (a0 : Array Value) (hw : ∀ d ∈ tables_1, d.before a0 Z = true) (ws : List Jvm.Cond) (u : Int32) (h0 : Heap) (n0 : Nat) (Z0 : n0 ≤ h0.size) :
    MetFree l (⟨"com/example/netz/netz/net/SparseVectorOverlapsPinLaw", "useLo", "(I)Z"⟩ : MethodName) (head1 (Jvm.Cond.code (⟨"com/example/netz/netz/net/SparseVectorOverlapsPinLaw", "useLo", "(I)Z"⟩ : MethodName) method_2_code 1 (some .boolean) :: ws) ({ frames := 0, cells := 0, slots := 0, locals := 0 } : Room)) (fun za U => za = #[(.int u)] ∧ Z.Warmed39 U.vm ∧ U.heap = h0) (fun _ _ _ _ _ => True) (fun _ U o U' => ∃ rv Lq, o = .returned rv ∧ Q3 Z u h0 n0 rv U'.heap Lq ∧ FrameEnd U o U' Lq ({ frames := 0, cells := 0, slots := 0, locals := 0 } : Room).cells ({ frames := 0, cells := 0, slots := 0, locals := 0 } : Room).slots) := by
  refine MetFree.of_bodySF (plainFor_of_name pn_0) hisR ?_
  intro p e s m args below meth c s₁ Bd hml0 hP hK
  obtain ⟨rfl, hZ, hh⟩ := hP
  have hx := Bd.exec
  have hby := Bd.bytes
  have hml : c.maxLocals = 1 := hml0
  have hown : s.vm.findClass "com/example/netz/netz/net/SparseVectorOverlapsPinLaw" = some m.cls := findClass_of_methodNamed Bd.named
  have hnm := (name_of_methodNamed Bd.named Bd.method).1
  have X0 : Stand p l e ({ frames := 0, cells := 0, slots := 0, locals := 0 } : Room) s m #[(.int u)] below meth c s₁ [] 0 0 := Stand.of_body Bd
  have e0 : s₁.heap = h0 := by rw [← hh, Bd.state]; rfl
  have N0 := Fr.nil n0
  refine own_out (own_nm fun G hG => own_st (fun zt zk => castTop (ef_rm3 m u) zk) ?_)
  show own_Go p e below G (s₁.setTop (mkF m 0 #[.val (.int u)] []))
  refine own_st (fun zw zk => XS.iloadN X0.here hx rfl (hb hby d3_0) rfl zk) ?_
  refine own_st (fun zw zk => XS.iconst X0.here hx rfl (hb hby d3_1) zk) ?_
  refine own_st (fun zw zk => XS.iand X0.here hx rfl (hb hby d3_2) rfl zk) ?_
  by_cases hc3 : (u &&& (1 : Int32)) = (0 : Int32)
  · refine own_st (fun zw zk => XS.ifYes X0.here hx rfl (pc0 := 3) (pc' := 10) rfl (hb hby d3_3) rfl ((if0 _ _).trans (teq hc3).1) (by decide) (by decide) zk) ?_
    refine own_st (fun zw zk => XS.iconst X0.here hx rfl (hb hby d3_10) zk) ?_
    subst hG
    obtain ⟨fs, hr, hrun, hended, hW, hsame⟩ := X0.leave (v := some (.int (0 : Int32))) (fun h => by rw [Bd.returns] at h; cases h)
    refine ⟨_, retN X0 hx (t := .boolean) Bd.returns (by simp) (hb hby d3_11) hr, _, hrun, hended, _, _, rfl, ?_, ⟨_, rfl⟩, hW, hsame.mono (by decide) (by decide)⟩
    show Q3 Z u h0 n0 _ s₁.heap _
    rw [e0]
    exact ⟨by unfold own_lo; rw [if_pos hc3], N0, rfl⟩
  · refine own_st (fun zw zk => XS.ifNo X0.here hx rfl (hb hby d3_3) rfl ((if0 _ _).trans (feq hc3).1) zk) ?_
    refine own_st (fun zw zk => XS.iconst X0.here hx rfl (hb hby d3_6) zk) ?_
    refine own_st (fun zw zk => XS.goto X0.here hx rfl (pc0 := 7) (pc' := 11) rfl (hb hby d3_7) (by decide) (by decide) zk) ?_
    show own_Go p e below G (s₁.setTop (mkF m 11 #[.val (.int u)] [(.int (1 : Int32))]))
    subst hG
    obtain ⟨fs, hr, hrun, hended, hW, hsame⟩ := X0.leave (v := some (.int (1 : Int32))) (fun h => by rw [Bd.returns] at h; cases h)
    refine ⟨_, retN X0 hx (t := .boolean) Bd.returns (by simp) (hb hby d3_11) hr, _, hrun, hended, _, _, rfl, ?_, ⟨_, rfl⟩, hW, hsame.mono (by decide) (by decide)⟩
    show Q3 Z u h0 n0 _ s₁.heap _
    rw [e0]
    exact ⟨by unfold own_lo; rw [if_neg hc3], N0, rfl⟩
theorem d4_0 : decode method_3_code 0 = .ok (.iload_n 0, 1) := by decide +kernel
theorem d4_1 : decode method_3_code 1 = .ok (.iconst 2, 1) := by decide +kernel
theorem d4_2 : decode method_3_code 2 = .ok (.iand, 1) := by decide +kernel
theorem d4_3 : decode method_3_code 3 = .ok (.ifCond .eq 18, 3) := by decide +kernel
theorem d4_6 : decode method_3_code 6 = .ok (.iload_n 2, 1) := by decide +kernel
theorem d4_7 : decode method_3_code 7 = .ok (.iload_n 1, 1) := by decide +kernel
theorem d4_8 : decode method_3_code 8 = .ok (.if_icmp .ne 9, 3) := by decide +kernel
theorem d4_11 : decode method_3_code 11 = .ok (.iload_n 0, 1) := by decide +kernel
theorem d4_12 : decode method_3_code 12 = .ok (.iconst 1, 1) := by decide +kernel
theorem d4_13 : decode method_3_code 13 = .ok (.iand, 1) := by decide +kernel
theorem d4_14 : decode method_3_code 14 = .ok (.ifCond .ne 7, 3) := by decide +kernel
theorem d4_17 : decode method_3_code 17 = .ok (.iconst 1, 1) := by decide +kernel
theorem d4_18 : decode method_3_code 18 = .ok (.goto 4, 3) := by decide +kernel
theorem d4_21 : decode method_3_code 21 = .ok (.iconst 0, 1) := by decide +kernel
theorem d4_22 : decode method_3_code 22 = .ok (.ireturn, 1) := by decide +kernel
theorem ef_rm4 (m : MethodId) (u : Int32) (v : Int32) (w : Int32) : entryFrame m #[(.int u), (.int v), (.int w)] 3 = mkF m 0 #[.val (.int u), .val (.int v), .val (.int w)] [] := by first | (simp [entryFrame, mkF, argsToLocals, Value.category]; done) | rfl
def own_hh (u : Int32) (v : Int32) (w : Int32) : Int32 := (if (u &&& (2 : Int32)) = (0 : Int32) then (0 : Int32) else (if w = v then (if (u &&& (1 : Int32)) = (0 : Int32) then (1 : Int32) else (0 : Int32)) else (1 : Int32)))
def Q4 (Z : State) (u : Int32) (v : Int32) (w : Int32) (h0 : Heap) (n0 : Nat) (rv : Option Value) (hq : Heap) (Lq : List Loc) : Prop := rv = some (.int (own_hh u v w)) ∧ Fr n0 Lq ∧ hq = h0
set_option maxRecDepth 65536 in
set_option maxHeartbeats 40000000 in
theorem rm4 (l : Launch) (Z : State) (a0 : Array Value) (hw : ∀ d ∈ tables_1, d.before a0 Z = true) (ws : List Jvm.Cond) (u : Int32) (v : Int32) (w : Int32) (h0 : Heap) (n0 : Nat) (Z0 : n0 ≤ h0.size) :
    MetFree l (⟨"com/example/netz/netz/net/SparseVectorOverlapsPinLaw", "useHi", "(III)Z"⟩ : MethodName) (head1 (Jvm.Cond.code (⟨"com/example/netz/netz/net/SparseVectorOverlapsPinLaw", "useHi", "(III)Z"⟩ : MethodName) method_3_code 3 (some .boolean) :: ws) ({ frames := 0, cells := 0, slots := 0, locals := 0 } : Room)) (fun za U => za = #[(.int u), (.int v), (.int w)] ∧ Z.Warmed39 U.vm ∧ U.heap = h0) (fun _ _ _ _ _ => True) (fun _ U o U' => ∃ rv Lq, o = .returned rv ∧ Q4 Z u v w h0 n0 rv U'.heap Lq ∧ FrameEnd U o U' Lq ({ frames := 0, cells := 0, slots := 0, locals := 0 } : Room).cells ({ frames := 0, cells := 0, slots := 0, locals := 0 } : Room).slots) := by
  refine MetFree.of_bodySF (plainFor_of_name pn_0) hisR ?_
  intro p e s m args below meth c s₁ Bd hml0 hP hK
  obtain ⟨rfl, hZ, hh⟩ := hP
  have hx := Bd.exec
  have hby := Bd.bytes
  have hml : c.maxLocals = 3 := hml0
  have hown : s.vm.findClass "com/example/netz/netz/net/SparseVectorOverlapsPinLaw" = some m.cls := findClass_of_methodNamed Bd.named
  have hnm := (name_of_methodNamed Bd.named Bd.method).1
  have X0 : Stand p l e ({ frames := 0, cells := 0, slots := 0, locals := 0 } : Room) s m #[(.int u), (.int v), (.int w)] below meth c s₁ [] 0 0 := Stand.of_body Bd
  have e0 : s₁.heap = h0 := by rw [← hh, Bd.state]; rfl
  have N0 := Fr.nil n0
  refine own_out (own_nm fun G hG => own_st (fun zt zk => castTop (ef_rm4 m u v w) zk) ?_)
  show own_Go p e below G (s₁.setTop (mkF m 0 #[.val (.int u), .val (.int v), .val (.int w)] []))
  refine own_st (fun zw zk => XS.iloadN X0.here hx rfl (hb hby d4_0) rfl zk) ?_
  refine own_st (fun zw zk => XS.iconst X0.here hx rfl (hb hby d4_1) zk) ?_
  refine own_st (fun zw zk => XS.iand X0.here hx rfl (hb hby d4_2) rfl zk) ?_
  by_cases hc3 : (u &&& (2 : Int32)) = (0 : Int32)
  · refine own_st (fun zw zk => XS.ifYes X0.here hx rfl (pc0 := 3) (pc' := 21) rfl (hb hby d4_3) rfl ((if0 _ _).trans (teq hc3).1) (by decide) (by decide) zk) ?_
    refine own_st (fun zw zk => XS.iconst X0.here hx rfl (hb hby d4_21) zk) ?_
    subst hG
    obtain ⟨fs, hr, hrun, hended, hW, hsame⟩ := X0.leave (v := some (.int (0 : Int32))) (fun h => by rw [Bd.returns] at h; cases h)
    refine ⟨_, retN X0 hx (t := .boolean) Bd.returns (by simp) (hb hby d4_22) hr, _, hrun, hended, _, _, rfl, ?_, ⟨_, rfl⟩, hW, hsame.mono (by decide) (by decide)⟩
    show Q4 Z u v w h0 n0 _ s₁.heap _
    rw [e0]
    exact ⟨by unfold own_hh; rw [if_pos hc3], N0, rfl⟩
  · refine own_st (fun zw zk => XS.ifNo X0.here hx rfl (hb hby d4_3) rfl ((if0 _ _).trans (feq hc3).1) zk) ?_
    refine own_st (fun zw zk => XS.iloadN X0.here hx rfl (hb hby d4_6) rfl zk) ?_
    refine own_st (fun zw zk => XS.iloadN X0.here hx rfl (hb hby d4_7) rfl zk) ?_
    by_cases hc8 : w = v
    · refine own_st (fun zw zk => XS.icmpNo X0.here hx rfl (hb hby d4_8) rfl (teq hc8).2 zk) ?_
      refine own_st (fun zw zk => XS.iloadN X0.here hx rfl (hb hby d4_11) rfl zk) ?_
      show own_Go p e below G (s₁.setTop (mkF m 12 #[.val (.int u), .val (.int v), .val (.int w)] [(.int u)]))
      refine own_st (fun zw zk => XS.iconst X0.here hx rfl (hb hby d4_12) zk) ?_
      refine own_st (fun zw zk => XS.iand X0.here hx rfl (hb hby d4_13) rfl zk) ?_
      by_cases hc14 : (u &&& (1 : Int32)) = (0 : Int32)
      · refine own_st (fun zw zk => XS.ifNo X0.here hx rfl (hb hby d4_14) rfl ((if0 _ _).trans (teq hc14).2) zk) ?_
        refine own_st (fun zw zk => XS.iconst X0.here hx rfl (hb hby d4_17) zk) ?_
        refine own_st (fun zw zk => XS.goto X0.here hx rfl (pc0 := 18) (pc' := 22) rfl (hb hby d4_18) (by decide) (by decide) zk) ?_
        show own_Go p e below G (s₁.setTop (mkF m 22 #[.val (.int u), .val (.int v), .val (.int w)] [(.int (1 : Int32))]))
        subst hG
        obtain ⟨fs, hr, hrun, hended, hW, hsame⟩ := X0.leave (v := some (.int (1 : Int32))) (fun h => by rw [Bd.returns] at h; cases h)
        refine ⟨_, retN X0 hx (t := .boolean) Bd.returns (by simp) (hb hby d4_22) hr, _, hrun, hended, _, _, rfl, ?_, ⟨_, rfl⟩, hW, hsame.mono (by decide) (by decide)⟩
        show Q4 Z u v w h0 n0 _ s₁.heap _
        rw [e0]
        exact ⟨by unfold own_hh; rw [if_neg hc3, if_pos hc8, if_pos hc14], N0, rfl⟩
      · refine own_st (fun zw zk => XS.ifYes X0.here hx rfl (pc0 := 14) (pc' := 21) rfl (hb hby d4_14) rfl ((if0 _ _).trans (feq hc14).2) (by decide) (by decide) zk) ?_
        refine own_st (fun zw zk => XS.iconst X0.here hx rfl (hb hby d4_21) zk) ?_
        subst hG
        obtain ⟨fs, hr, hrun, hended, hW, hsame⟩ := X0.leave (v := some (.int (0 : Int32))) (fun h => by rw [Bd.returns] at h; cases h)
        refine ⟨_, retN X0 hx (t := .boolean) Bd.returns (by simp) (hb hby d4_22) hr, _, hrun, hended, _, _, rfl, ?_, ⟨_, rfl⟩, hW, hsame.mono (by decide) (by decide)⟩
        show Q4 Z u v w h0 n0 _ s₁.heap _
        rw [e0]
        exact ⟨by unfold own_hh; rw [if_neg hc3, if_pos hc8, if_neg hc14], N0, rfl⟩
    · refine own_st (fun zw zk => XS.icmpYes X0.here hx rfl (pc0 := 8) (pc' := 17) rfl (hb hby d4_8) rfl (feq hc8).2 (by decide) (by decide) zk) ?_
      refine own_st (fun zw zk => XS.iconst X0.here hx rfl (hb hby d4_17) zk) ?_
      show own_Go p e below G (s₁.setTop (mkF m 18 #[.val (.int u), .val (.int v), .val (.int w)] [(.int (1 : Int32))]))
      refine own_st (fun zw zk => XS.goto X0.here hx rfl (pc0 := 18) (pc' := 22) rfl (hb hby d4_18) (by decide) (by decide) zk) ?_
      show own_Go p e below G (s₁.setTop (mkF m 22 #[.val (.int u), .val (.int v), .val (.int w)] [(.int (1 : Int32))]))
      subst hG
      obtain ⟨fs, hr, hrun, hended, hW, hsame⟩ := X0.leave (v := some (.int (1 : Int32))) (fun h => by rw [Bd.returns] at h; cases h)
      refine ⟨_, retN X0 hx (t := .boolean) Bd.returns (by simp) (hb hby d4_22) hr, _, hrun, hended, _, _, rfl, ?_, ⟨_, rfl⟩, hW, hsame.mono (by decide) (by decide)⟩
      show Q4 Z u v w h0 n0 _ s₁.heap _
      rw [e0]
      exact ⟨by unfold own_hh; rw [if_neg hc3, if_neg hc8], N0, rfl⟩
theorem own_strict (m p q : Int32) : ¬ (own_lo m = 0) → ¬ (own_hh m (own_mn p q) (own_mx p q) = 0) → own_mn p q < own_mx p q := by
  intro h1 h2
  have h3 : ¬ (m &&& (1 : Int32)) = 0 := fun e => h1 (by unfold own_lo; rw [if_pos e])
  have h4 : ¬ (own_mx p q = own_mn p q) := fun e => h2 (by
    unfold own_hh
    by_cases z : (m &&& (2 : Int32)) = 0
    · rw [if_pos z]
    · rw [if_neg z, if_pos e, if_neg h3])
  have h5 : ¬ (own_mx p q < own_mn p q) := by
    unfold own_mx own_mn
    simp only [Int32.lt_iff_toInt_lt]
    split <;> split <;> (try simp only [Int32.lt_iff_toInt_lt] at *) <;> omega
  simp only [Int32.lt_iff_toInt_lt, ← Int32.toInt_inj] at *
  omega
theorem d5_0 : decode method_4_code 0 = .ok (.iload_n 0, 1) := by decide +kernel
theorem d5_1 : decode method_4_code 1 = .ok (.ifCond .eq 7, 3) := by decide +kernel
theorem d5_4 : decode method_4_code 4 = .ok (.iconst 1, 1) := by decide +kernel
theorem d5_5 : decode method_4_code 5 = .ok (.goto 4, 3) := by decide +kernel
theorem d5_8 : decode method_4_code 8 = .ok (.iconst 0, 1) := by decide +kernel
theorem d5_9 : decode method_4_code 9 = .ok (.iload_n 1, 1) := by decide +kernel
theorem d5_10 : decode method_4_code 10 = .ok (.ifCond .eq 7, 3) := by decide +kernel
theorem d5_13 : decode method_4_code 13 = .ok (.iconst 1, 1) := by decide +kernel
theorem d5_14 : decode method_4_code 14 = .ok (.goto 4, 3) := by decide +kernel
theorem d5_17 : decode method_4_code 17 = .ok (.iconst 0, 1) := by decide +kernel
theorem d5_18 : decode method_4_code 18 = .ok (.iadd, 1) := by decide +kernel
theorem d5_19 : decode method_4_code 19 = .ok (.istore 4, 2) := by decide +kernel
theorem d5_21 : decode method_4_code 21 = .ok (.iload 4, 2) := by decide +kernel
theorem d5_23 : decode method_4_code 23 = .ok (.newarray .int, 2) := by decide +kernel
theorem d5_25 : decode method_4_code 25 = .ok (.astore 5, 2) := by decide +kernel
theorem d5_27 : decode method_4_code 27 = .ok (.iconst 0, 1) := by decide +kernel
theorem d5_28 : decode method_4_code 28 = .ok (.istore 6, 2) := by decide +kernel
theorem d5_30 : decode method_4_code 30 = .ok (.iload_n 0, 1) := by decide +kernel
theorem d5_31 : decode method_4_code 31 = .ok (.ifCond .eq 15, 3) := by decide +kernel
theorem d5_34 : decode method_4_code 34 = .ok (.aload 5, 2) := by decide +kernel
theorem d5_36 : decode method_4_code 36 = .ok (.iload 6, 2) := by decide +kernel
theorem d5_38 : decode method_4_code 38 = .ok (.iload_n 2, 1) := by decide +kernel
theorem d5_39 : decode method_4_code 39 = .ok (.iastore, 1) := by decide +kernel
theorem d5_40 : decode method_4_code 40 = .ok (.iload 6, 2) := by decide +kernel
theorem d5_42 : decode method_4_code 42 = .ok (.iconst 1, 1) := by decide +kernel
theorem d5_43 : decode method_4_code 43 = .ok (.iadd, 1) := by decide +kernel
theorem d5_44 : decode method_4_code 44 = .ok (.istore 6, 2) := by decide +kernel
theorem d5_46 : decode method_4_code 46 = .ok (.iload_n 1, 1) := by decide +kernel
theorem d5_47 : decode method_4_code 47 = .ok (.ifCond .eq 9, 3) := by decide +kernel
theorem d5_50 : decode method_4_code 50 = .ok (.aload 5, 2) := by decide +kernel
theorem d5_52 : decode method_4_code 52 = .ok (.iload 6, 2) := by decide +kernel
theorem d5_54 : decode method_4_code 54 = .ok (.iload_n 3, 1) := by decide +kernel
theorem d5_55 : decode method_4_code 55 = .ok (.iastore, 1) := by decide +kernel
theorem d5_56 : decode method_4_code 56 = .ok (.aload 5, 2) := by decide +kernel
theorem d5_58 : decode method_4_code 58 = .ok (.areturn, 1) := by decide +kernel
theorem ef_rm5 (m : MethodId) (uL : Int32) (uH : Int32) (lo : Int32) (hi : Int32) : entryFrame m #[(.int uL), (.int uH), (.int lo), (.int hi)] 7 = mkF m 0 #[.val (.int uL), .val (.int uH), .val (.int lo), .val (.int hi), .unset, .unset, .unset] [] := by first | (simp [entryFrame, mkF, argsToLocals, Value.category]; done) | rfl
def Q5 (Z : State) (uL : Int32) (uH : Int32) (lo : Int32) (hi : Int32) (h0 : Heap) (n0 : Nat) (rv : Option Value) (hq : Heap) (Lq : List Loc) : Prop := ∃ bb : Addr, rv = some (.ref bb) ∧ Fr n0 Lq ∧ h0.size ≤ bb ∧ Keep h0 hq [] ∧ own_L Z hq bb .int ((own_il (own_ix uL uH lo hi)))
set_option maxRecDepth 65536 in
set_option maxHeartbeats 40000000 in
theorem rm5 (l : Launch) (Z : State) (a0 : Array Value) (hw : ∀ d ∈ tables_1, d.before a0 Z = true) (ws : List Jvm.Cond) (uL : Int32) (uH : Int32) (lo : Int32) (hi : Int32) (h0 : Heap) (n0 : Nat) (Z0 : n0 ≤ h0.size) :
    MetFree l (⟨"com/example/netz/netz/net/SparseVectorOverlapsPinLaw", "indices", "(ZZII)[I"⟩ : MethodName) (head1 (Jvm.Cond.code (⟨"com/example/netz/netz/net/SparseVectorOverlapsPinLaw", "indices", "(ZZII)[I"⟩ : MethodName) method_4_code 7 (some (.array .int)) :: ws) ({ frames := 0, cells := 1, slots := 2, locals := 0 } : Room)) (fun za U => za = #[(.int uL), (.int uH), (.int lo), (.int hi)] ∧ Z.Warmed39 U.vm ∧ U.heap = h0) (fun _ _ _ _ _ => True) (fun _ U o U' => ∃ rv Lq, o = .returned rv ∧ Q5 Z uL uH lo hi h0 n0 rv U'.heap Lq ∧ FrameEnd U o U' Lq ({ frames := 0, cells := 1, slots := 2, locals := 0 } : Room).cells ({ frames := 0, cells := 1, slots := 2, locals := 0 } : Room).slots) := by
  refine MetFree.of_bodySF (plainFor_of_name pn_0) hisR ?_
  intro p e s m args below meth c s₁ Bd hml0 hP hK
  obtain ⟨rfl, hZ, hh⟩ := hP
  have hx := Bd.exec
  have hby := Bd.bytes
  have hml : c.maxLocals = 7 := hml0
  have hown : s.vm.findClass "com/example/netz/netz/net/SparseVectorOverlapsPinLaw" = some m.cls := findClass_of_methodNamed Bd.named
  have hnm := (name_of_methodNamed Bd.named Bd.method).1
  have X0 : Stand p l e ({ frames := 0, cells := 1, slots := 2, locals := 0 } : Room) s m #[(.int uL), (.int uH), (.int lo), (.int hi)] below meth c s₁ [] 0 0 := Stand.of_body Bd
  have e0 : s₁.heap = h0 := by rw [← hh, Bd.state]; rfl
  have N0 := Fr.nil n0
  refine own_out (own_nm fun G hG => own_st (fun zt zk => castTop (ef_rm5 m uL uH lo hi) zk) ?_)
  show own_Go p e below G (s₁.setTop (mkF m 0 #[.val (.int uL), .val (.int uH), .val (.int lo), .val (.int hi), .unset, .unset, .unset] []))
  refine own_st (fun zw zk => XS.iloadN X0.here hx rfl (hb hby d5_0) rfl zk) ?_
  by_cases hc1 : uL = (0 : Int32)
  · refine own_st (fun zw zk => XS.ifYes X0.here hx rfl (pc0 := 1) (pc' := 8) rfl (hb hby d5_1) rfl ((if0 _ _).trans (teq hc1).1) (by decide) (by decide) zk) ?_
    refine own_st (fun zw zk => XS.iconst X0.here hx rfl (hb hby d5_8) zk) ?_
    refine own_st (fun zw zk => XS.iloadN X0.here hx rfl (hb hby d5_9) rfl zk) ?_
    by_cases hc10 : uH = (0 : Int32)
    · refine own_st (fun zw zk => XS.ifYes X0.here hx rfl (pc0 := 10) (pc' := 17) rfl (hb hby d5_10) rfl ((if0 _ _).trans (teq hc10).1) (by decide) (by decide) zk) ?_
      refine own_st (fun zw zk => XS.iconst X0.here hx rfl (hb hby d5_17) zk) ?_
      refine own_st (fun zw zk => XS.iadd X0.here hx rfl (hb hby d5_18) rfl zk) ?_
      refine own_st (fun zw zk => XS.istore X0.here hx rfl (hb hby d5_19) rfl rfl zk) ?_
      show own_Go p e below G (s₁.setTop (mkF m 21 #[.val (.int uL), .val (.int uH), .val (.int lo), .val (.int hi), .val (.int (0 : Int32)), .unset, .unset] []))
      refine own_st (fun zw zk => XS.iload X0.here hx rfl (hb hby d5_21) rfl zk) ?_
      obtain ⟨T1, h1, k1, X1, e1, E1, A1, st1⟩ := newP X0 hx hZ (hw _ (List.mem_of_getElem? (i := 17) rfl)) e0 (g := (mkF m 23 #[.val (.int uL), .val (.int uH), .val (.int lo), .val (.int hi), .val (.int (0 : Int32)), .unset, .unset] [(.int (0 : Int32))])) rfl (hb hby d5_23) rfl (by decide) (cap := 0) (by decide) (by decide) (by decide) (by decide)
      obtain ⟨b1, g1⟩ : ∃ z, z = h0.size := ⟨_, rfl⟩
      rw [← g1] at A1 st1
      have G1 : n0 ≤ b1 := Nat.le_trans Z0 (Nat.le_of_eq g1.symm)
      have Z1 : n0 ≤ h1.size := Nat.le_trans Z0 E1.1
      have sz1 : h0.size ≤ b1 := Nat.le_trans (Keep.refl h0 []).1 (Nat.le_of_eq g1.symm)
      have Kp1 := (Keep.refl h0 []).ext E1
      have V1 : own_L Z h1 b1 .int ([]) := own_L.new A1
      refine own_st (fun zw zk => st1 zw zk) ?_
      refine own_st (fun zw zk => XS.astore X1.here hx rfl (hb hby d5_25) rfl rfl rfl zk) ?_
      show own_Go p e below G (T1.setTop (mkF m 27 #[.val (.int uL), .val (.int uH), .val (.int lo), .val (.int hi), .val (.int (0 : Int32)), .val (.ref b1), .unset] []))
      refine own_st (fun zw zk => XS.iconst X1.here hx rfl (hb hby d5_27) zk) ?_
      refine own_st (fun zw zk => XS.istore X1.here hx rfl (hb hby d5_28) rfl rfl zk) ?_
      show own_Go p e below G (T1.setTop (mkF m 30 #[.val (.int uL), .val (.int uH), .val (.int lo), .val (.int hi), .val (.int (0 : Int32)), .val (.ref b1), .val (.int (0 : Int32))] []))
      refine own_st (fun zw zk => XS.iloadN X1.here hx rfl (hb hby d5_30) rfl zk) ?_
      refine own_st (fun zw zk => XS.ifYes X1.here hx rfl (pc0 := 31) (pc' := 46) rfl (hb hby d5_31) rfl ((if0 _ _).trans (teq hc1).1) (by decide) (by decide) zk) ?_
      refine own_st (fun zw zk => XS.iloadN X1.here hx rfl (hb hby d5_46) rfl zk) ?_
      refine own_st (fun zw zk => XS.ifYes X1.here hx rfl (pc0 := 47) (pc' := 56) rfl (hb hby d5_47) rfl ((if0 _ _).trans (teq hc10).1) (by decide) (by decide) zk) ?_
      refine own_st (fun zw zk => XS.aload X1.here hx rfl (hb hby d5_56) rfl rfl zk) ?_
      subst hG
      obtain ⟨fs, hr, hrun, hended, hW, hsame⟩ := X1.leave (v := some (.ref b1)) (fun h => by rw [Bd.returns] at h; cases h)
      refine ⟨_, X1.areturnOut hx rfl Bd.returns rfl (hb hby d5_58) hr, _, hrun, hended, _, _, rfl, ?_, ⟨_, rfl⟩, hW, hsame.mono (by decide) (by decide)⟩
      show Q5 Z uL uH lo hi h0 n0 _ T1.heap _
      rw [e1]
      exact ⟨b1, rfl, N0, sz1, Kp1, (by unfold own_ix; rw [if_pos hc1, if_pos hc10]; exact V1)⟩
    · refine own_st (fun zw zk => XS.ifNo X0.here hx rfl (hb hby d5_10) rfl ((if0 _ _).trans (feq hc10).1) zk) ?_
      refine own_st (fun zw zk => XS.iconst X0.here hx rfl (hb hby d5_13) zk) ?_
      refine own_st (fun zw zk => XS.goto X0.here hx rfl (pc0 := 14) (pc' := 18) rfl (hb hby d5_14) (by decide) (by decide) zk) ?_
      show own_Go p e below G (s₁.setTop (mkF m 18 #[.val (.int uL), .val (.int uH), .val (.int lo), .val (.int hi), .unset, .unset, .unset] [(.int (1 : Int32)), (.int (0 : Int32))]))
      refine own_st (fun zw zk => XS.iadd X0.here hx rfl (hb hby d5_18) rfl zk) ?_
      refine own_st (fun zw zk => XS.istore X0.here hx rfl (hb hby d5_19) rfl rfl zk) ?_
      show own_Go p e below G (s₁.setTop (mkF m 21 #[.val (.int uL), .val (.int uH), .val (.int lo), .val (.int hi), .val (.int (1 : Int32)), .unset, .unset] []))
      refine own_st (fun zw zk => XS.iload X0.here hx rfl (hb hby d5_21) rfl zk) ?_
      obtain ⟨T2, h2, k2, X2, e2, E2, A2, st2⟩ := newP X0 hx hZ (hw _ (List.mem_of_getElem? (i := 17) rfl)) e0 (g := (mkF m 23 #[.val (.int uL), .val (.int uH), .val (.int lo), .val (.int hi), .val (.int (1 : Int32)), .unset, .unset] [(.int (1 : Int32))])) rfl (hb hby d5_23) rfl (by decide) (cap := 1) (by decide) (by decide) (by decide) (by decide)
      obtain ⟨b2, g2⟩ : ∃ z, z = h0.size := ⟨_, rfl⟩
      rw [← g2] at A2 st2
      have G2 : n0 ≤ b2 := Nat.le_trans Z0 (Nat.le_of_eq g2.symm)
      have Z2 : n0 ≤ h2.size := Nat.le_trans Z0 E2.1
      have sz2 : h0.size ≤ b2 := Nat.le_trans (Keep.refl h0 []).1 (Nat.le_of_eq g2.symm)
      have Kp2 := (Keep.refl h0 []).ext E2
      have V2 : own_L Z h2 b2 .int ([(.int (0 : Int32))]) := own_L.new A2
      refine own_st (fun zw zk => st2 zw zk) ?_
      refine own_st (fun zw zk => XS.astore X2.here hx rfl (hb hby d5_25) rfl rfl rfl zk) ?_
      show own_Go p e below G (T2.setTop (mkF m 27 #[.val (.int uL), .val (.int uH), .val (.int lo), .val (.int hi), .val (.int (1 : Int32)), .val (.ref b2), .unset] []))
      refine own_st (fun zw zk => XS.iconst X2.here hx rfl (hb hby d5_27) zk) ?_
      refine own_st (fun zw zk => XS.istore X2.here hx rfl (hb hby d5_28) rfl rfl zk) ?_
      show own_Go p e below G (T2.setTop (mkF m 30 #[.val (.int uL), .val (.int uH), .val (.int lo), .val (.int hi), .val (.int (1 : Int32)), .val (.ref b2), .val (.int (0 : Int32))] []))
      refine own_st (fun zw zk => XS.iloadN X2.here hx rfl (hb hby d5_30) rfl zk) ?_
      refine own_st (fun zw zk => XS.ifYes X2.here hx rfl (pc0 := 31) (pc' := 46) rfl (hb hby d5_31) rfl ((if0 _ _).trans (teq hc1).1) (by decide) (by decide) zk) ?_
      refine own_st (fun zw zk => XS.iloadN X2.here hx rfl (hb hby d5_46) rfl zk) ?_
      refine own_st (fun zw zk => XS.ifNo X2.here hx rfl (hb hby d5_47) rfl ((if0 _ _).trans (feq hc10).1) zk) ?_
      refine own_st (fun zw zk => XS.aload X2.here hx rfl (hb hby d5_50) rfl rfl zk) ?_
      refine own_st (fun zw zk => XS.iload X2.here hx rfl (hb hby d5_52) rfl zk) ?_
      refine own_st (fun zw zk => XS.iloadN X2.here hx rfl (hb hby d5_54) rfl zk) ?_
      obtain ⟨T3, h3, X3, e3, W3, V3, st3⟩ := own_ist X2 hx hZ e2 V2 (j := (0 : Int32)) (0) (by decide) (by decide) (Nat.le_of_ble_eq_true rfl) (g := (mkF m 55 #[.val (.int uL), .val (.int uH), .val (.int lo), .val (.int hi), .val (.int (1 : Int32)), .val (.ref b2), .val (.int (0 : Int32))] [(.int hi), (.int (0 : Int32)), (.ref b2)])) rfl rfl (hb hby d5_55)
      have Vb2_3 : own_L Z h3 b2 .int ([(.int hi)]) := V3
      have N3 := Fr.snoc X3 N0 G2
      refine own_st (fun zw zk => st3 zw zk) ?_
      have Z3 : n0 ≤ h3.size := Nat.le_trans Z2 (Keep.of_wr W3).1
      have Kp3 := Kp2.wr W3 (Or.inr sz2)
      show own_Go p e below G (T3.setTop (mkF m 56 #[.val (.int uL), .val (.int uH), .val (.int lo), .val (.int hi), .val (.int (1 : Int32)), .val (.ref b2), .val (.int (0 : Int32))] []))
      refine own_st (fun zw zk => XS.aload X3.here hx rfl (hb hby d5_56) rfl rfl zk) ?_
      subst hG
      obtain ⟨fs, hr, hrun, hended, hW, hsame⟩ := X3.leave (v := some (.ref b2)) (fun h => by rw [Bd.returns] at h; cases h)
      refine ⟨_, X3.areturnOut hx rfl Bd.returns rfl (hb hby d5_58) hr, _, hrun, hended, _, _, rfl, ?_, ⟨_, rfl⟩, hW, hsame.mono (by decide) (by decide)⟩
      show Q5 Z uL uH lo hi h0 n0 _ T3.heap _
      rw [e3]
      exact ⟨b2, rfl, N3, sz2, Kp3, (by unfold own_ix; rw [if_pos hc1, if_neg hc10]; exact Vb2_3)⟩
  · refine own_st (fun zw zk => XS.ifNo X0.here hx rfl (hb hby d5_1) rfl ((if0 _ _).trans (feq hc1).1) zk) ?_
    refine own_st (fun zw zk => XS.iconst X0.here hx rfl (hb hby d5_4) zk) ?_
    refine own_st (fun zw zk => XS.goto X0.here hx rfl (pc0 := 5) (pc' := 9) rfl (hb hby d5_5) (by decide) (by decide) zk) ?_
    show own_Go p e below G (s₁.setTop (mkF m 9 #[.val (.int uL), .val (.int uH), .val (.int lo), .val (.int hi), .unset, .unset, .unset] [(.int (1 : Int32))]))
    refine own_st (fun zw zk => XS.iloadN X0.here hx rfl (hb hby d5_9) rfl zk) ?_
    by_cases hc10 : uH = (0 : Int32)
    · refine own_st (fun zw zk => XS.ifYes X0.here hx rfl (pc0 := 10) (pc' := 17) rfl (hb hby d5_10) rfl ((if0 _ _).trans (teq hc10).1) (by decide) (by decide) zk) ?_
      refine own_st (fun zw zk => XS.iconst X0.here hx rfl (hb hby d5_17) zk) ?_
      refine own_st (fun zw zk => XS.iadd X0.here hx rfl (hb hby d5_18) rfl zk) ?_
      refine own_st (fun zw zk => XS.istore X0.here hx rfl (hb hby d5_19) rfl rfl zk) ?_
      show own_Go p e below G (s₁.setTop (mkF m 21 #[.val (.int uL), .val (.int uH), .val (.int lo), .val (.int hi), .val (.int (1 : Int32)), .unset, .unset] []))
      refine own_st (fun zw zk => XS.iload X0.here hx rfl (hb hby d5_21) rfl zk) ?_
      obtain ⟨T4, h4, k4, X4, e4, E4, A4, st4⟩ := newP X0 hx hZ (hw _ (List.mem_of_getElem? (i := 17) rfl)) e0 (g := (mkF m 23 #[.val (.int uL), .val (.int uH), .val (.int lo), .val (.int hi), .val (.int (1 : Int32)), .unset, .unset] [(.int (1 : Int32))])) rfl (hb hby d5_23) rfl (by decide) (cap := 1) (by decide) (by decide) (by decide) (by decide)
      obtain ⟨b4, g4⟩ : ∃ z, z = h0.size := ⟨_, rfl⟩
      rw [← g4] at A4 st4
      have G4 : n0 ≤ b4 := Nat.le_trans Z0 (Nat.le_of_eq g4.symm)
      have Z4 : n0 ≤ h4.size := Nat.le_trans Z0 E4.1
      have sz4 : h0.size ≤ b4 := Nat.le_trans (Keep.refl h0 []).1 (Nat.le_of_eq g4.symm)
      have Kp4 := (Keep.refl h0 []).ext E4
      have V4 : own_L Z h4 b4 .int ([(.int (0 : Int32))]) := own_L.new A4
      refine own_st (fun zw zk => st4 zw zk) ?_
      refine own_st (fun zw zk => XS.astore X4.here hx rfl (hb hby d5_25) rfl rfl rfl zk) ?_
      show own_Go p e below G (T4.setTop (mkF m 27 #[.val (.int uL), .val (.int uH), .val (.int lo), .val (.int hi), .val (.int (1 : Int32)), .val (.ref b4), .unset] []))
      refine own_st (fun zw zk => XS.iconst X4.here hx rfl (hb hby d5_27) zk) ?_
      refine own_st (fun zw zk => XS.istore X4.here hx rfl (hb hby d5_28) rfl rfl zk) ?_
      show own_Go p e below G (T4.setTop (mkF m 30 #[.val (.int uL), .val (.int uH), .val (.int lo), .val (.int hi), .val (.int (1 : Int32)), .val (.ref b4), .val (.int (0 : Int32))] []))
      refine own_st (fun zw zk => XS.iloadN X4.here hx rfl (hb hby d5_30) rfl zk) ?_
      refine own_st (fun zw zk => XS.ifNo X4.here hx rfl (hb hby d5_31) rfl ((if0 _ _).trans (feq hc1).1) zk) ?_
      refine own_st (fun zw zk => XS.aload X4.here hx rfl (hb hby d5_34) rfl rfl zk) ?_
      refine own_st (fun zw zk => XS.iload X4.here hx rfl (hb hby d5_36) rfl zk) ?_
      refine own_st (fun zw zk => XS.iloadN X4.here hx rfl (hb hby d5_38) rfl zk) ?_
      obtain ⟨T5, h5, X5, e5, W5, V5, st5⟩ := own_ist X4 hx hZ e4 V4 (j := (0 : Int32)) (0) (by decide) (by decide) (Nat.le_of_ble_eq_true rfl) (g := (mkF m 39 #[.val (.int uL), .val (.int uH), .val (.int lo), .val (.int hi), .val (.int (1 : Int32)), .val (.ref b4), .val (.int (0 : Int32))] [(.int lo), (.int (0 : Int32)), (.ref b4)])) rfl rfl (hb hby d5_39)
      have Vb4_5 : own_L Z h5 b4 .int ([(.int lo)]) := V5
      have N5 := Fr.snoc X5 N0 G4
      refine own_st (fun zw zk => st5 zw zk) ?_
      have Z5 : n0 ≤ h5.size := Nat.le_trans Z4 (Keep.of_wr W5).1
      have Kp5 := Kp4.wr W5 (Or.inr sz4)
      refine own_st (fun zw zk => XS.iload X5.here hx rfl (hb hby d5_40) rfl zk) ?_
      refine own_st (fun zw zk => XS.iconst X5.here hx rfl (hb hby d5_42) zk) ?_
      show own_Go p e below G (T5.setTop (mkF m 43 #[.val (.int uL), .val (.int uH), .val (.int lo), .val (.int hi), .val (.int (1 : Int32)), .val (.ref b4), .val (.int (0 : Int32))] [(.int (1 : Int32)), (.int (0 : Int32))]))
      refine own_st (fun zw zk => XS.iadd X5.here hx rfl (hb hby d5_43) rfl zk) ?_
      refine own_st (fun zw zk => XS.istore X5.here hx rfl (hb hby d5_44) rfl rfl zk) ?_
      show own_Go p e below G (T5.setTop (mkF m 46 #[.val (.int uL), .val (.int uH), .val (.int lo), .val (.int hi), .val (.int (1 : Int32)), .val (.ref b4), .val (.int (1 : Int32))] []))
      refine own_st (fun zw zk => XS.iloadN X5.here hx rfl (hb hby d5_46) rfl zk) ?_
      refine own_st (fun zw zk => XS.ifYes X5.here hx rfl (pc0 := 47) (pc' := 56) rfl (hb hby d5_47) rfl ((if0 _ _).trans (teq hc10).1) (by decide) (by decide) zk) ?_
      refine own_st (fun zw zk => XS.aload X5.here hx rfl (hb hby d5_56) rfl rfl zk) ?_
      subst hG
      obtain ⟨fs, hr, hrun, hended, hW, hsame⟩ := X5.leave (v := some (.ref b4)) (fun h => by rw [Bd.returns] at h; cases h)
      refine ⟨_, X5.areturnOut hx rfl Bd.returns rfl (hb hby d5_58) hr, _, hrun, hended, _, _, rfl, ?_, ⟨_, rfl⟩, hW, hsame.mono (by decide) (by decide)⟩
      show Q5 Z uL uH lo hi h0 n0 _ T5.heap _
      rw [e5]
      exact ⟨b4, rfl, N5, sz4, Kp5, (by unfold own_ix; rw [if_neg hc1, if_pos hc10]; exact Vb4_5)⟩
    · refine own_st (fun zw zk => XS.ifNo X0.here hx rfl (hb hby d5_10) rfl ((if0 _ _).trans (feq hc10).1) zk) ?_
      refine own_st (fun zw zk => XS.iconst X0.here hx rfl (hb hby d5_13) zk) ?_
      refine own_st (fun zw zk => XS.goto X0.here hx rfl (pc0 := 14) (pc' := 18) rfl (hb hby d5_14) (by decide) (by decide) zk) ?_
      show own_Go p e below G (s₁.setTop (mkF m 18 #[.val (.int uL), .val (.int uH), .val (.int lo), .val (.int hi), .unset, .unset, .unset] [(.int (1 : Int32)), (.int (1 : Int32))]))
      refine own_st (fun zw zk => XS.iadd X0.here hx rfl (hb hby d5_18) rfl zk) ?_
      refine own_st (fun zw zk => XS.istore X0.here hx rfl (hb hby d5_19) rfl rfl zk) ?_
      show own_Go p e below G (s₁.setTop (mkF m 21 #[.val (.int uL), .val (.int uH), .val (.int lo), .val (.int hi), .val (.int (2 : Int32)), .unset, .unset] []))
      refine own_st (fun zw zk => XS.iload X0.here hx rfl (hb hby d5_21) rfl zk) ?_
      obtain ⟨T6, h6, k6, X6, e6, E6, A6, st6⟩ := newP X0 hx hZ (hw _ (List.mem_of_getElem? (i := 17) rfl)) e0 (g := (mkF m 23 #[.val (.int uL), .val (.int uH), .val (.int lo), .val (.int hi), .val (.int (2 : Int32)), .unset, .unset] [(.int (2 : Int32))])) rfl (hb hby d5_23) rfl (by decide) (cap := 2) (by decide) (by decide) (by decide) (by decide)
      obtain ⟨b6, g6⟩ : ∃ z, z = h0.size := ⟨_, rfl⟩
      rw [← g6] at A6 st6
      have G6 : n0 ≤ b6 := Nat.le_trans Z0 (Nat.le_of_eq g6.symm)
      have Z6 : n0 ≤ h6.size := Nat.le_trans Z0 E6.1
      have sz6 : h0.size ≤ b6 := Nat.le_trans (Keep.refl h0 []).1 (Nat.le_of_eq g6.symm)
      have Kp6 := (Keep.refl h0 []).ext E6
      have V6 : own_L Z h6 b6 .int ([(.int (0 : Int32)), (.int (0 : Int32))]) := own_L.new A6
      refine own_st (fun zw zk => st6 zw zk) ?_
      refine own_st (fun zw zk => XS.astore X6.here hx rfl (hb hby d5_25) rfl rfl rfl zk) ?_
      show own_Go p e below G (T6.setTop (mkF m 27 #[.val (.int uL), .val (.int uH), .val (.int lo), .val (.int hi), .val (.int (2 : Int32)), .val (.ref b6), .unset] []))
      refine own_st (fun zw zk => XS.iconst X6.here hx rfl (hb hby d5_27) zk) ?_
      refine own_st (fun zw zk => XS.istore X6.here hx rfl (hb hby d5_28) rfl rfl zk) ?_
      show own_Go p e below G (T6.setTop (mkF m 30 #[.val (.int uL), .val (.int uH), .val (.int lo), .val (.int hi), .val (.int (2 : Int32)), .val (.ref b6), .val (.int (0 : Int32))] []))
      refine own_st (fun zw zk => XS.iloadN X6.here hx rfl (hb hby d5_30) rfl zk) ?_
      refine own_st (fun zw zk => XS.ifNo X6.here hx rfl (hb hby d5_31) rfl ((if0 _ _).trans (feq hc1).1) zk) ?_
      refine own_st (fun zw zk => XS.aload X6.here hx rfl (hb hby d5_34) rfl rfl zk) ?_
      refine own_st (fun zw zk => XS.iload X6.here hx rfl (hb hby d5_36) rfl zk) ?_
      refine own_st (fun zw zk => XS.iloadN X6.here hx rfl (hb hby d5_38) rfl zk) ?_
      obtain ⟨T7, h7, X7, e7, W7, V7, st7⟩ := own_ist X6 hx hZ e6 V6 (j := (0 : Int32)) (0) (by decide) (by decide) (Nat.le_of_ble_eq_true rfl) (g := (mkF m 39 #[.val (.int uL), .val (.int uH), .val (.int lo), .val (.int hi), .val (.int (2 : Int32)), .val (.ref b6), .val (.int (0 : Int32))] [(.int lo), (.int (0 : Int32)), (.ref b6)])) rfl rfl (hb hby d5_39)
      have Vb6_7 : own_L Z h7 b6 .int ([(.int lo), (.int (0 : Int32))]) := V7
      have N7 := Fr.snoc X7 N0 G6
      refine own_st (fun zw zk => st7 zw zk) ?_
      have Z7 : n0 ≤ h7.size := Nat.le_trans Z6 (Keep.of_wr W7).1
      have Kp7 := Kp6.wr W7 (Or.inr sz6)
      refine own_st (fun zw zk => XS.iload X7.here hx rfl (hb hby d5_40) rfl zk) ?_
      refine own_st (fun zw zk => XS.iconst X7.here hx rfl (hb hby d5_42) zk) ?_
      show own_Go p e below G (T7.setTop (mkF m 43 #[.val (.int uL), .val (.int uH), .val (.int lo), .val (.int hi), .val (.int (2 : Int32)), .val (.ref b6), .val (.int (0 : Int32))] [(.int (1 : Int32)), (.int (0 : Int32))]))
      refine own_st (fun zw zk => XS.iadd X7.here hx rfl (hb hby d5_43) rfl zk) ?_
      refine own_st (fun zw zk => XS.istore X7.here hx rfl (hb hby d5_44) rfl rfl zk) ?_
      show own_Go p e below G (T7.setTop (mkF m 46 #[.val (.int uL), .val (.int uH), .val (.int lo), .val (.int hi), .val (.int (2 : Int32)), .val (.ref b6), .val (.int (1 : Int32))] []))
      refine own_st (fun zw zk => XS.iloadN X7.here hx rfl (hb hby d5_46) rfl zk) ?_
      refine own_st (fun zw zk => XS.ifNo X7.here hx rfl (hb hby d5_47) rfl ((if0 _ _).trans (feq hc10).1) zk) ?_
      refine own_st (fun zw zk => XS.aload X7.here hx rfl (hb hby d5_50) rfl rfl zk) ?_
      refine own_st (fun zw zk => XS.iload X7.here hx rfl (hb hby d5_52) rfl zk) ?_
      refine own_st (fun zw zk => XS.iloadN X7.here hx rfl (hb hby d5_54) rfl zk) ?_
      obtain ⟨T8, h8, X8, e8, W8, V8, st8⟩ := own_ist X7 hx hZ e7 Vb6_7 (j := (1 : Int32)) (1) (by decide) (by decide) (Nat.le_of_ble_eq_true rfl) (g := (mkF m 55 #[.val (.int uL), .val (.int uH), .val (.int lo), .val (.int hi), .val (.int (2 : Int32)), .val (.ref b6), .val (.int (1 : Int32))] [(.int hi), (.int (1 : Int32)), (.ref b6)])) rfl rfl (hb hby d5_55)
      have Vb6_8 : own_L Z h8 b6 .int ([(.int lo), (.int hi)]) := V8
      have N8 := Fr.snoc X8 N7 G6
      refine own_st (fun zw zk => st8 zw zk) ?_
      have Z8 : n0 ≤ h8.size := Nat.le_trans Z7 (Keep.of_wr W8).1
      have Kp8 := Kp7.wr W8 (Or.inr sz6)
      refine own_st (fun zw zk => XS.aload X8.here hx rfl (hb hby d5_56) rfl rfl zk) ?_
      subst hG
      obtain ⟨fs, hr, hrun, hended, hW, hsame⟩ := X8.leave (v := some (.ref b6)) (fun h => by rw [Bd.returns] at h; cases h)
      refine ⟨_, X8.areturnOut hx rfl Bd.returns rfl (hb hby d5_58) hr, _, hrun, hended, _, _, rfl, ?_, ⟨_, rfl⟩, hW, hsame.mono (by decide) (by decide)⟩
      show Q5 Z uL uH lo hi h0 n0 _ T8.heap _
      rw [e8]
      exact ⟨b6, rfl, N8, sz6, Kp8, (by unfold own_ix; rw [if_neg hc1, if_neg hc10]; exact Vb6_8)⟩
theorem own_gtk {i j : Int32} {n k : Nat} (h : i.toInt = n) (hc : j < i) (hj : j.toInt = k) : k < n := by rw [Int32.lt_iff_toInt_lt] at hc; omega
theorem d6_0 : decode method_5_code 0 = .ok (.iload_n 0, 1) := by decide +kernel
theorem d6_1 : decode method_5_code 1 = .ok (.newarray .long, 2) := by decide +kernel
theorem d6_3 : decode method_5_code 3 = .ok (.astore_n 3, 1) := by decide +kernel
theorem d6_4 : decode method_5_code 4 = .ok (.iload_n 0, 1) := by decide +kernel
theorem d6_5 : decode method_5_code 5 = .ok (.ifCond .le 9, 3) := by decide +kernel
theorem d6_8 : decode method_5_code 8 = .ok (.aload_n 3, 1) := by decide +kernel
theorem d6_9 : decode method_5_code 9 = .ok (.iconst 0, 1) := by decide +kernel
theorem d6_10 : decode method_5_code 10 = .ok (.lload_n 1, 1) := by decide +kernel
theorem d6_11 : decode method_5_code 11 = .ok (.lconst 1, 1) := by decide +kernel
theorem d6_12 : decode method_5_code 12 = .ok (.lor, 1) := by decide +kernel
theorem d6_13 : decode method_5_code 13 = .ok (.lastore, 1) := by decide +kernel
theorem d6_14 : decode method_5_code 14 = .ok (.iload_n 0, 1) := by decide +kernel
theorem d6_15 : decode method_5_code 15 = .ok (.iconst 1, 1) := by decide +kernel
theorem d6_16 : decode method_5_code 16 = .ok (.if_icmp .le 11, 3) := by decide +kernel
theorem d6_19 : decode method_5_code 19 = .ok (.aload_n 3, 1) := by decide +kernel
theorem d6_20 : decode method_5_code 20 = .ok (.iconst 1, 1) := by decide +kernel
theorem d6_21 : decode method_5_code 21 = .ok (.lload_n 1, 1) := by decide +kernel
theorem d6_22 : decode method_5_code 22 = .ok (.iconst 1, 1) := by decide +kernel
theorem d6_23 : decode method_5_code 23 = .ok (.lushr, 1) := by decide +kernel
theorem d6_24 : decode method_5_code 24 = .ok (.lconst 1, 1) := by decide +kernel
theorem d6_25 : decode method_5_code 25 = .ok (.lor, 1) := by decide +kernel
theorem d6_26 : decode method_5_code 26 = .ok (.lastore, 1) := by decide +kernel
theorem d6_27 : decode method_5_code 27 = .ok (.aload_n 3, 1) := by decide +kernel
theorem d6_28 : decode method_5_code 28 = .ok (.areturn, 1) := by decide +kernel
theorem ef_rm6 (m : MethodId) (u : Int32) (q1 : Int64) : entryFrame m #[(.int u), (.long q1)] 4 = mkF m 0 #[.val (.int u), .val (.long q1), .second, .unset] [] := by first | (simp [entryFrame, mkF, argsToLocals, Value.category]; done) | rfl
def Q6 (Z : State) (u : Int32) (q1 : Int64) (nn : Nat) (h0 : Heap) (n0 : Nat) (rv : Option Value) (hq : Heap) (Lq : List Loc) : Prop := ∃ bb : Addr, rv = some (.ref bb) ∧ Fr n0 Lq ∧ h0.size ≤ bb ∧ Keep h0 hq []
set_option maxRecDepth 65536 in
set_option maxHeartbeats 40000000 in
theorem rm6 (l : Launch) (Z : State) (a0 : Array Value) (hw : ∀ d ∈ tables_1, d.before a0 Z = true) (ws : List Jvm.Cond) (u : Int32) (q1 : Int64) (nn : Nat) (h0 : Heap) (n0 : Nat) (Z0 : n0 ≤ h0.size) (hnn : u.toInt = nn) (hn2 : nn ≤ 2) :
    MetFree l (⟨"com/example/netz/netz/net/SparseVectorOverlapsPinLaw", "values", "(IJ)[J"⟩ : MethodName) (head1 (Jvm.Cond.code (⟨"com/example/netz/netz/net/SparseVectorOverlapsPinLaw", "values", "(IJ)[J"⟩ : MethodName) method_5_code 4 (some (.array .long)) :: ws) ({ frames := 0, cells := 1, slots := 2, locals := 0 } : Room)) (fun za U => za = #[(.int u), (.long q1)] ∧ Z.Warmed39 U.vm ∧ U.heap = h0) (fun _ _ _ _ _ => True) (fun _ U o U' => ∃ rv Lq, o = .returned rv ∧ Q6 Z u q1 nn h0 n0 rv U'.heap Lq ∧ FrameEnd U o U' Lq ({ frames := 0, cells := 1, slots := 2, locals := 0 } : Room).cells ({ frames := 0, cells := 1, slots := 2, locals := 0 } : Room).slots) := by
  refine MetFree.of_bodySF (plainFor_of_name pn_0) hisR ?_
  intro p e s m args below meth c s₁ Bd hml0 hP hK
  obtain ⟨rfl, hZ, hh⟩ := hP
  have hx := Bd.exec
  have hby := Bd.bytes
  have hml : c.maxLocals = 4 := hml0
  have hown : s.vm.findClass "com/example/netz/netz/net/SparseVectorOverlapsPinLaw" = some m.cls := findClass_of_methodNamed Bd.named
  have hnm := (name_of_methodNamed Bd.named Bd.method).1
  have X0 : Stand p l e ({ frames := 0, cells := 1, slots := 2, locals := 0 } : Room) s m #[(.int u), (.long q1)] below meth c s₁ [] 0 0 := Stand.of_body Bd
  have e0 : s₁.heap = h0 := by rw [← hh, Bd.state]; rfl
  have N0 := Fr.nil n0
  refine own_out (own_nm fun G hG => own_st (fun zt zk => castTop (ef_rm6 m u q1) zk) ?_)
  show own_Go p e below G (s₁.setTop (mkF m 0 #[.val (.int u), .val (.long q1), .second, .unset] []))
  refine own_st (fun zw zk => XS.iloadN X0.here hx rfl (hb hby d6_0) rfl zk) ?_
  obtain ⟨T9, h9, k9, X9, e9, E9, A9, st9⟩ := newP X0 hx hZ (hw _ (List.mem_of_getElem? (i := 24) rfl)) e0 (g := (mkF m 1 #[.val (.int u), .val (.long q1), .second, .unset] [(.int u)])) rfl (hb hby d6_1) rfl (own_nn hnn) (cap := 2) (by rw [own_nat hnn]; exact hn2) (by decide) (by decide) (by decide)
  obtain ⟨b9, g9⟩ : ∃ z, z = h0.size := ⟨_, rfl⟩
  rw [← g9] at A9 st9
  have G9 : n0 ≤ b9 := Nat.le_trans Z0 (Nat.le_of_eq g9.symm)
  have Z9 : n0 ≤ h9.size := Nat.le_trans Z0 E9.1
  have sz9 : h0.size ≤ b9 := Nat.le_trans (Keep.refl h0 []).1 (Nat.le_of_eq g9.symm)
  have Kp9 := (Keep.refl h0 []).ext E9
  have V9 : own_L Z h9 b9 .long ((List.replicate nn (.long 0))) := (by have q := (own_L.new A9); rw [own_nat hnn] at q; exact q)
  refine own_st (fun zw zk => st9 zw zk) ?_
  refine own_st (fun zw zk => XS.astoreN X9.here hx rfl (hb hby d6_3) rfl rfl rfl zk) ?_
  show own_Go p e below G (T9.setTop (mkF m 4 #[.val (.int u), .val (.long q1), .second, .val (.ref b9)] []))
  refine own_st (fun zw zk => XS.iloadN X9.here hx rfl (hb hby d6_4) rfl zk) ?_
  by_cases hc5 : (0 : Int32) < u
  · refine own_st (fun zw zk => XS.ifNo X9.here hx rfl (hb hby d6_5) rfl ((if0 _ _).trans (tlt hc5).2.2.2) zk) ?_
    refine own_st (fun zw zk => XS.aloadN X9.here hx rfl (hb hby d6_8) rfl rfl zk) ?_
    refine own_st (fun zw zk => XS.iconst X9.here hx rfl (hb hby d6_9) zk) ?_
    refine own_st (fun zw zk => XS.lloadN X9.here hx rfl (hb hby d6_10) rfl zk) ?_
    refine own_st (fun zw zk => XS.lconst X9.here hx rfl (hb hby d6_11) zk) ?_
    refine own_st (fun zw zk => XS.lor X9.here hx rfl (hb hby d6_12) rfl zk) ?_
    obtain ⟨T10, h10, X10, e10, W10, V10, st10⟩ := own_jst X9 hx hZ e9 V9 (j := (0 : Int32)) (0) (by decide) (by decide) (by simp only [List.length_set, List.length_replicate]; exact own_gtk hnn hc5 (by decide)) (g := (mkF m 13 #[.val (.int u), .val (.long q1), .second, .val (.ref b9)] [(.long (q1 ||| (1 : Int64))), (.int (0 : Int32)), (.ref b9)])) rfl rfl (hb hby d6_13)
    have Vb9_10 : own_L Z h10 b9 .long (((List.replicate nn (.long 0)).set 0 (.long (q1 ||| (1 : Int64))))) := V10
    have N10 := Fr.snoc X10 N0 G9
    refine own_st (fun zw zk => st10 zw zk) ?_
    have Z10 : n0 ≤ h10.size := Nat.le_trans Z9 (Keep.of_wr W10).1
    have Kp10 := Kp9.wr W10 (Or.inr sz9)
    show own_Go p e below G (T10.setTop (mkF m 14 #[.val (.int u), .val (.long q1), .second, .val (.ref b9)] []))
    refine own_st (fun zw zk => XS.iloadN X10.here hx rfl (hb hby d6_14) rfl zk) ?_
    refine own_st (fun zw zk => XS.iconst X10.here hx rfl (hb hby d6_15) zk) ?_
    by_cases hc16 : (1 : Int32) < u
    · refine own_st (fun zw zk => XS.icmpNo X10.here hx rfl (hb hby d6_16) rfl (tlt hc16).2.2.2 zk) ?_
      refine own_st (fun zw zk => XS.aloadN X10.here hx rfl (hb hby d6_19) rfl rfl zk) ?_
      refine own_st (fun zw zk => XS.iconst X10.here hx rfl (hb hby d6_20) zk) ?_
      refine own_st (fun zw zk => XS.lloadN X10.here hx rfl (hb hby d6_21) rfl zk) ?_
      refine own_st (fun zw zk => XS.iconst X10.here hx rfl (hb hby d6_22) zk) ?_
      refine own_st (fun zw zk => XS.lushr X10.here hx rfl (hb hby d6_23) rfl zk) ?_
      show own_Go p e below G (T10.setTop (mkF m 24 #[.val (.int u), .val (.long q1), .second, .val (.ref b9)] [(.long ((q1.toUInt64 >>> ((1 : Int32) &&& 0x3f).toInt64.toUInt64).toInt64)), (.int (1 : Int32)), (.ref b9)]))
      refine own_st (fun zw zk => XS.lconst X10.here hx rfl (hb hby d6_24) zk) ?_
      refine own_st (fun zw zk => XS.lor X10.here hx rfl (hb hby d6_25) rfl zk) ?_
      obtain ⟨T11, h11, X11, e11, W11, V11, st11⟩ := own_jst X10 hx hZ e10 Vb9_10 (j := (1 : Int32)) (1) (by decide) (by decide) (by simp only [List.length_set, List.length_replicate]; exact own_gtk hnn hc16 (by decide)) (g := (mkF m 26 #[.val (.int u), .val (.long q1), .second, .val (.ref b9)] [(.long (((q1.toUInt64 >>> ((1 : Int32) &&& 0x3f).toInt64.toUInt64).toInt64) ||| (1 : Int64))), (.int (1 : Int32)), (.ref b9)])) rfl rfl (hb hby d6_26)
      have Vb9_11 : own_L Z h11 b9 .long ((((List.replicate nn (.long 0)).set 0 (.long (q1 ||| (1 : Int64)))).set 1 (.long (((q1.toUInt64 >>> ((1 : Int32) &&& 0x3f).toInt64.toUInt64).toInt64) ||| (1 : Int64))))) := V11
      have N11 := Fr.snoc X11 N10 G9
      refine own_st (fun zw zk => st11 zw zk) ?_
      have Z11 : n0 ≤ h11.size := Nat.le_trans Z10 (Keep.of_wr W11).1
      have Kp11 := Kp10.wr W11 (Or.inr sz9)
      refine own_st (fun zw zk => XS.aloadN X11.here hx rfl (hb hby d6_27) rfl rfl zk) ?_
      subst hG
      obtain ⟨fs, hr, hrun, hended, hW, hsame⟩ := X11.leave (v := some (.ref b9)) (fun h => by rw [Bd.returns] at h; cases h)
      refine ⟨_, X11.areturnOut hx rfl Bd.returns rfl (hb hby d6_28) hr, _, hrun, hended, _, _, rfl, ?_, ⟨_, rfl⟩, hW, hsame.mono (by decide) (by decide)⟩
      show Q6 Z u q1 nn h0 n0 _ T11.heap _
      rw [e11]
      exact ⟨b9, rfl, N11, sz9, Kp11⟩
    · refine own_st (fun zw zk => XS.icmpYes X10.here hx rfl (pc0 := 16) (pc' := 27) rfl (hb hby d6_16) rfl (flt hc16).2.2.2 (by decide) (by decide) zk) ?_
      refine own_st (fun zw zk => XS.aloadN X10.here hx rfl (hb hby d6_27) rfl rfl zk) ?_
      subst hG
      obtain ⟨fs, hr, hrun, hended, hW, hsame⟩ := X10.leave (v := some (.ref b9)) (fun h => by rw [Bd.returns] at h; cases h)
      refine ⟨_, X10.areturnOut hx rfl Bd.returns rfl (hb hby d6_28) hr, _, hrun, hended, _, _, rfl, ?_, ⟨_, rfl⟩, hW, hsame.mono (by decide) (by decide)⟩
      show Q6 Z u q1 nn h0 n0 _ T10.heap _
      rw [e10]
      exact ⟨b9, rfl, N10, sz9, Kp10⟩
  · refine own_st (fun zw zk => XS.ifYes X9.here hx rfl (pc0 := 5) (pc' := 14) rfl (hb hby d6_5) rfl ((if0 _ _).trans (flt hc5).2.2.2) (by decide) (by decide) zk) ?_
    refine own_st (fun zw zk => XS.iloadN X9.here hx rfl (hb hby d6_14) rfl zk) ?_
    refine own_st (fun zw zk => XS.iconst X9.here hx rfl (hb hby d6_15) zk) ?_
    by_cases hc16 : (1 : Int32) < u
    · refine own_st (fun zw zk => XS.icmpNo X9.here hx rfl (hb hby d6_16) rfl (tlt hc16).2.2.2 zk) ?_
      refine own_st (fun zw zk => XS.aloadN X9.here hx rfl (hb hby d6_19) rfl rfl zk) ?_
      refine own_st (fun zw zk => XS.iconst X9.here hx rfl (hb hby d6_20) zk) ?_
      refine own_st (fun zw zk => XS.lloadN X9.here hx rfl (hb hby d6_21) rfl zk) ?_
      show own_Go p e below G (T9.setTop (mkF m 22 #[.val (.int u), .val (.long q1), .second, .val (.ref b9)] [(.long q1), (.int (1 : Int32)), (.ref b9)]))
      refine own_st (fun zw zk => XS.iconst X9.here hx rfl (hb hby d6_22) zk) ?_
      refine own_st (fun zw zk => XS.lushr X9.here hx rfl (hb hby d6_23) rfl zk) ?_
      refine own_st (fun zw zk => XS.lconst X9.here hx rfl (hb hby d6_24) zk) ?_
      refine own_st (fun zw zk => XS.lor X9.here hx rfl (hb hby d6_25) rfl zk) ?_
      obtain ⟨T12, h12, X12, e12, W12, V12, st12⟩ := own_jst X9 hx hZ e9 V9 (j := (1 : Int32)) (1) (by decide) (by decide) (by simp only [List.length_set, List.length_replicate]; exact own_gtk hnn hc16 (by decide)) (g := (mkF m 26 #[.val (.int u), .val (.long q1), .second, .val (.ref b9)] [(.long (((q1.toUInt64 >>> ((1 : Int32) &&& 0x3f).toInt64.toUInt64).toInt64) ||| (1 : Int64))), (.int (1 : Int32)), (.ref b9)])) rfl rfl (hb hby d6_26)
      have Vb9_12 : own_L Z h12 b9 .long (((List.replicate nn (.long 0)).set 1 (.long (((q1.toUInt64 >>> ((1 : Int32) &&& 0x3f).toInt64.toUInt64).toInt64) ||| (1 : Int64))))) := V12
      have N12 := Fr.snoc X12 N0 G9
      refine own_st (fun zw zk => st12 zw zk) ?_
      have Z12 : n0 ≤ h12.size := Nat.le_trans Z9 (Keep.of_wr W12).1
      have Kp12 := Kp9.wr W12 (Or.inr sz9)
      refine own_st (fun zw zk => XS.aloadN X12.here hx rfl (hb hby d6_27) rfl rfl zk) ?_
      subst hG
      obtain ⟨fs, hr, hrun, hended, hW, hsame⟩ := X12.leave (v := some (.ref b9)) (fun h => by rw [Bd.returns] at h; cases h)
      refine ⟨_, X12.areturnOut hx rfl Bd.returns rfl (hb hby d6_28) hr, _, hrun, hended, _, _, rfl, ?_, ⟨_, rfl⟩, hW, hsame.mono (by decide) (by decide)⟩
      show Q6 Z u q1 nn h0 n0 _ T12.heap _
      rw [e12]
      exact ⟨b9, rfl, N12, sz9, Kp12⟩
    · refine own_st (fun zw zk => XS.icmpYes X9.here hx rfl (pc0 := 16) (pc' := 27) rfl (hb hby d6_16) rfl (flt hc16).2.2.2 (by decide) (by decide) zk) ?_
      refine own_st (fun zw zk => XS.aloadN X9.here hx rfl (hb hby d6_27) rfl rfl zk) ?_
      subst hG
      obtain ⟨fs, hr, hrun, hended, hW, hsame⟩ := X9.leave (v := some (.ref b9)) (fun h => by rw [Bd.returns] at h; cases h)
      refine ⟨_, X9.areturnOut hx rfl Bd.returns rfl (hb hby d6_28) hr, _, hrun, hended, _, _, rfl, ?_, ⟨_, rfl⟩, hW, hsame.mono (by decide) (by decide)⟩
      show Q6 Z u q1 nn h0 n0 _ T9.heap _
      rw [e9]
      exact ⟨b9, rfl, N0, sz9, Kp9⟩
theorem pn_1 : plainName "com/example/netz/netz/net/SparseVector" = true := by first | (simp [plainName, overriddenIn]; done) | decide +kernel
theorem d7_0 : decode prog_42_method_1_code 0 = .ok (.aload_n 0, 1) := by decide +kernel
theorem d7_1 : decode prog_42_method_1_code 1 = .ok (.invokespecial 1, 3) := by decide +kernel
theorem d7_4 : decode prog_42_method_1_code 4 = .ok (.aload_n 0, 1) := by decide +kernel
theorem d7_5 : decode prog_42_method_1_code 5 = .ok (.aload_n 1, 1) := by decide +kernel
theorem d7_6 : decode prog_42_method_1_code 6 = .ok (.putfield 7, 3) := by decide +kernel
theorem d7_9 : decode prog_42_method_1_code 9 = .ok (.aload_n 0, 1) := by decide +kernel
theorem d7_10 : decode prog_42_method_1_code 10 = .ok (.aload_n 2, 1) := by decide +kernel
theorem d7_11 : decode prog_42_method_1_code 11 = .ok (.putfield 13, 3) := by decide +kernel
theorem d7_14 : decode prog_42_method_1_code 14 = .ok (.return_, 1) := by decide +kernel
theorem ef_rm7 (m : MethodId) (d : Addr) (i1 : Addr) (t2 : Addr) : entryFrame m #[(.ref d), (.ref i1), (.ref t2)] 3 = mkF m 0 #[.val (.ref d), .val (.ref i1), .val (.ref t2)] [] := by first | (simp [entryFrame, mkF, argsToLocals, Value.category]; done) | rfl
def Q7 (Z : State) (d : Addr) (i1 : Addr) (t2 : Addr) (h0 : Heap) (n0 : Nat) (rv : Option Value) (hq : Heap) (Lq : List Loc) : Prop := rv = none ∧ Fr n0 Lq ∧ Keep h0 hq [d] ∧ Exa Z hq d "com/example/netz/netz/net/SparseVector" ∧ Fld Z hq d "com/example/netz/netz/net/SparseVector" "indices" "[I" (.ref i1)
set_option maxRecDepth 65536 in
set_option maxHeartbeats 40000000 in
theorem rm7 (l : Launch) (Z : State) (a0 : Array Value) (hw : ∀ d ∈ tables_1, d.before a0 Z = true) (ws : List Jvm.Cond) (d : Addr) (i1 : Addr) (t2 : Addr) (h0 : Heap) (n0 : Nat) (Z0 : n0 ≤ h0.size) (F0_ : Exa Z h0 d "com/example/netz/netz/net/SparseVector") (F1_ : Fld Z h0 d "com/example/netz/netz/net/SparseVector" "indices" "[I" .null) (F2_ : Fld Z h0 d "com/example/netz/netz/net/SparseVector" "values" "[J" .null) (ge_d : n0 ≤ d) :
    MetFree l (⟨"com/example/netz/netz/net/SparseVector", "<init>", "([I[J)V"⟩ : MethodName) (head1 (Jvm.Cond.code (⟨"com/example/netz/netz/net/SparseVector", "<init>", "([I[J)V"⟩ : MethodName) prog_42_method_1_code 3 none :: ws) ({ frames := 1, cells := 0, slots := 0, locals := 12 } : Room)) (fun za U => za = #[(.ref d), (.ref i1), (.ref t2)] ∧ Z.Warmed39 U.vm ∧ U.heap = h0) (fun _ _ _ _ _ => True) (fun _ U o U' => ∃ rv Lq, o = .returned rv ∧ Q7 Z d i1 t2 h0 n0 rv U'.heap Lq ∧ FrameEnd U o U' Lq ({ frames := 1, cells := 0, slots := 0, locals := 12 } : Room).cells ({ frames := 1, cells := 0, slots := 0, locals := 12 } : Room).slots) := by
  refine MetFree.of_bodySF (plainFor_of_name pn_1) hisR ?_
  intro p e s m args below meth c s₁ Bd hml0 hP hK
  obtain ⟨rfl, hZ, hh⟩ := hP
  have hx := Bd.exec
  have hby := Bd.bytes
  have hml : c.maxLocals = 3 := hml0
  have hown : s.vm.findClass "com/example/netz/netz/net/SparseVector" = some m.cls := findClass_of_methodNamed Bd.named
  have hnm := (name_of_methodNamed Bd.named Bd.method).1
  have X0 : Stand p l e ({ frames := 1, cells := 0, slots := 0, locals := 12 } : Room) s m #[(.ref d), (.ref i1), (.ref t2)] below meth c s₁ [] 0 0 := Stand.of_body Bd
  have e0 : s₁.heap = h0 := by rw [← hh, Bd.state]; rfl
  have N0 := Fr.nil n0
  refine own_out (own_nm fun G hG => own_st (fun zt zk => castTop (ef_rm7 m d i1 t2) zk) ?_)
  show own_Go p e below G (s₁.setTop (mkF m 0 #[.val (.ref d), .val (.ref i1), .val (.ref t2)] []))
  refine own_st (fun zw zk => XS.aloadN X0.here hx rfl (hb hby d7_0) rfl rfl zk) ?_
  obtain ⟨T13, X13, e13, st13⟩ := initO X0 hx hZ hown (hw _ (List.mem_of_getElem? (i := 28) rfl)) (hw _ (List.mem_of_getElem? (i := 29) rfl)) (hw _ (List.mem_of_getElem? (i := 30) rfl)) e0 (g := (mkF m 1 #[.val (.ref d), .val (.ref i1), .val (.ref t2)] [(.ref d)])) rfl (by rw [hml]; rfl) rfl (hb hby d7_1) (by decide) (W := 0) (by show 2 * 0 + _ ≤ _; exact Nat.le_of_eq rfl) (by decide)
  refine own_st (fun zw zk => st13 zw zk) ?_
  refine own_st (fun zw zk => XS.aloadN X13.here hx rfl (hb hby d7_4) rfl rfl zk) ?_
  refine own_st (fun zw zk => XS.aloadN X13.here hx rfl (hb hby d7_5) rfl rfl zk) ?_
  obtain ⟨T14, h14, X14, e14, W14, st14⟩ := putF X13 hx hZ hown (host := "") (Or.inl (hw _ (List.mem_of_getElem? (i := 31) rfl))) Via.refl e13 F1_ F0_ (Or.inr ⟨(hw _ (List.mem_of_getElem? (i := 32) rfl)), rfl, hnm⟩) (hw _ (List.mem_of_getElem? (i := 19) rfl)) (ty := (.array .int)) (by decide) rfl rfl (g := (mkF m 6 #[.val (.ref d), .val (.ref i1), .val (.ref t2)] [(.ref i1), (.ref d)])) rfl rfl (hb hby d7_6)
  have F1_14 := F1_.same W14
  have N14 := Fr.snoc X14 N0 ge_d
  refine own_st (fun zw zk => st14 zw zk) ?_
  have F0_14 := F0_.wr W14
  have F2_14 := F2_.other W14 (Or.inr (slot_ne (Or.inr (hw _ (List.mem_of_getElem? (i := 34) rfl))) (Or.inr (hw _ (List.mem_of_getElem? (i := 32) rfl))) (by decide) (t := (.array .long)) (t' := (.array .int)) (by decide) (by decide)))
  have Z14 : n0 ≤ h14.size := Nat.le_trans Z0 (Keep.of_wr W14).1
  have Kp14 := (Keep.refl h0 [d]).wr W14 (Or.inl (List.mem_of_getElem? (i := 0) rfl))
  refine own_st (fun zw zk => XS.aloadN X14.here hx rfl (hb hby d7_9) rfl rfl zk) ?_
  refine own_st (fun zw zk => XS.aloadN X14.here hx rfl (hb hby d7_10) rfl rfl zk) ?_
  obtain ⟨T15, h15, X15, e15, W15, st15⟩ := putF X14 hx hZ hown (host := "") (Or.inl (hw _ (List.mem_of_getElem? (i := 33) rfl))) Via.refl e14 F2_14 F0_14 (Or.inr ⟨(hw _ (List.mem_of_getElem? (i := 34) rfl)), rfl, hnm⟩) (hw _ (List.mem_of_getElem? (i := 19) rfl)) (ty := (.array .long)) (by decide) rfl rfl (g := (mkF m 11 #[.val (.ref d), .val (.ref i1), .val (.ref t2)] [(.ref t2), (.ref d)])) rfl rfl (hb hby d7_11)
  have F2_15 := F2_14.same W15
  have N15 := Fr.snoc X15 N14 ge_d
  refine own_st (fun zw zk => st15 zw zk) ?_
  have F0_15 := F0_14.wr W15
  have F1_15 := F1_14.other W15 (Or.inr (slot_ne (Or.inr (hw _ (List.mem_of_getElem? (i := 32) rfl))) (Or.inr (hw _ (List.mem_of_getElem? (i := 34) rfl))) (by decide) (t := (.array .int)) (t' := (.array .long)) (by decide) (by decide)))
  have Z15 : n0 ≤ h15.size := Nat.le_trans Z14 (Keep.of_wr W15).1
  have Kp15 := Kp14.wr W15 (Or.inl (List.mem_of_getElem? (i := 0) rfl))
  show own_Go p e below G (T15.setTop (mkF m 14 #[.val (.ref d), .val (.ref i1), .val (.ref t2)] []))
  subst hG
  obtain ⟨fs, hr, hrun, hended, hW, hsame⟩ := X15.leave (v := none) (fun _ => rfl)
  refine ⟨_, X15.returnOut hx Bd.returns (hb hby d7_14) hr, _, hrun, hended, _, _, rfl, ?_, ⟨_, rfl⟩, hW, hsame.mono (by decide) (by decide)⟩
  show Q7 Z d i1 t2 h0 n0 _ T15.heap _
  rw [e15]
  exact ⟨rfl, N15, Kp15, F0_15, F1_15⟩
theorem d9_0 : decode prog_42_method_10_code 0 = .ok (.iconst 0, 1) := by decide +kernel
theorem d9_1 : decode prog_42_method_10_code 1 = .ok (.istore_n 2, 1) := by decide +kernel
theorem d9_2 : decode prog_42_method_10_code 2 = .ok (.iconst 0, 1) := by decide +kernel
theorem d9_3 : decode prog_42_method_10_code 3 = .ok (.istore_n 3, 1) := by decide +kernel
theorem d9_4 : decode prog_42_method_10_code 4 = .ok (.iload_n 2, 1) := by decide +kernel
theorem d9_5 : decode prog_42_method_10_code 5 = .ok (.aload_n 0, 1) := by decide +kernel
theorem d9_6 : decode prog_42_method_10_code 6 = .ok (.getfield 7, 3) := by decide +kernel
theorem d9_9 : decode prog_42_method_10_code 9 = .ok (.arraylength, 1) := by decide +kernel
theorem d9_10 : decode prog_42_method_10_code 10 = .ok (.if_icmp .ge 56, 3) := by decide +kernel
theorem d9_13 : decode prog_42_method_10_code 13 = .ok (.iload_n 3, 1) := by decide +kernel
theorem d9_14 : decode prog_42_method_10_code 14 = .ok (.aload_n 1, 1) := by decide +kernel
theorem d9_15 : decode prog_42_method_10_code 15 = .ok (.getfield 7, 3) := by decide +kernel
theorem d9_18 : decode prog_42_method_10_code 18 = .ok (.arraylength, 1) := by decide +kernel
theorem d9_19 : decode prog_42_method_10_code 19 = .ok (.if_icmp .ge 47, 3) := by decide +kernel
theorem d9_22 : decode prog_42_method_10_code 22 = .ok (.aload_n 0, 1) := by decide +kernel
theorem d9_23 : decode prog_42_method_10_code 23 = .ok (.getfield 7, 3) := by decide +kernel
theorem d9_26 : decode prog_42_method_10_code 26 = .ok (.iload_n 2, 1) := by decide +kernel
theorem d9_27 : decode prog_42_method_10_code 27 = .ok (.iaload, 1) := by decide +kernel
theorem d9_28 : decode prog_42_method_10_code 28 = .ok (.aload_n 1, 1) := by decide +kernel
theorem d9_29 : decode prog_42_method_10_code 29 = .ok (.getfield 7, 3) := by decide +kernel
theorem d9_32 : decode prog_42_method_10_code 32 = .ok (.iload_n 3, 1) := by decide +kernel
theorem d9_33 : decode prog_42_method_10_code 33 = .ok (.iaload, 1) := by decide +kernel
theorem d9_34 : decode prog_42_method_10_code 34 = .ok (.if_icmp .ne 5, 3) := by decide +kernel
theorem d9_37 : decode prog_42_method_10_code 37 = .ok (.iconst 1, 1) := by decide +kernel
theorem d9_38 : decode prog_42_method_10_code 38 = .ok (.ireturn, 1) := by decide +kernel
theorem d9_39 : decode prog_42_method_10_code 39 = .ok (.aload_n 0, 1) := by decide +kernel
theorem d9_40 : decode prog_42_method_10_code 40 = .ok (.getfield 7, 3) := by decide +kernel
theorem d9_43 : decode prog_42_method_10_code 43 = .ok (.iload_n 2, 1) := by decide +kernel
theorem d9_44 : decode prog_42_method_10_code 44 = .ok (.iaload, 1) := by decide +kernel
theorem d9_45 : decode prog_42_method_10_code 45 = .ok (.aload_n 1, 1) := by decide +kernel
theorem d9_46 : decode prog_42_method_10_code 46 = .ok (.getfield 7, 3) := by decide +kernel
theorem d9_49 : decode prog_42_method_10_code 49 = .ok (.iload_n 3, 1) := by decide +kernel
theorem d9_50 : decode prog_42_method_10_code 50 = .ok (.iaload, 1) := by decide +kernel
theorem d9_51 : decode prog_42_method_10_code 51 = .ok (.if_icmp .ge 9, 3) := by decide +kernel
theorem d9_54 : decode prog_42_method_10_code 54 = .ok (.iinc 2 1, 3) := by decide +kernel
theorem d9_57 : decode prog_42_method_10_code 57 = .ok (.goto (-53), 3) := by decide +kernel
theorem d9_60 : decode prog_42_method_10_code 60 = .ok (.iinc 3 1, 3) := by decide +kernel
theorem d9_63 : decode prog_42_method_10_code 63 = .ok (.goto (-59), 3) := by decide +kernel
theorem d9_66 : decode prog_42_method_10_code 66 = .ok (.iconst 0, 1) := by decide +kernel
theorem d9_67 : decode prog_42_method_10_code 67 = .ok (.ireturn, 1) := by decide +kernel
theorem ef_rm9 (m : MethodId) (d : Addr) (oo : Addr) : entryFrame m #[(.ref d), (.ref oo)] 4 = mkF m 0 #[.val (.ref d), .val (.ref oo), .unset, .unset] [] := by first | (simp [entryFrame, mkF, argsToLocals, Value.category]; done) | rfl
def Q9 (Z : State) (d : Addr) (oo : Addr) (t : Addr) (u : Addr) (xs : List Int32) (ys : List Int32) (nx : Int32) (ny : Int32) (h0 : Heap) (n0 : Nat) (rv : Option Value) (hq : Heap) (Lq : List Loc) : Prop := rv = some (.int (own_ov xs ys)) ∧ Fr n0 Lq ∧ hq = h0
set_option maxRecDepth 65536 in
set_option maxHeartbeats 40000000 in
theorem rm9 (l : Launch) (Z : State) (a0 : Array Value) (hw : ∀ d ∈ tables_1, d.before a0 Z = true) (ws : List Jvm.Cond) (d : Addr) (oo : Addr) (t : Addr) (u : Addr) (xs : List Int32) (ys : List Int32) (nx : Int32) (ny : Int32) (h0 : Heap) (n0 : Nat) (Z0 : n0 ≤ h0.size) (F0_ : Fld Z h0 d "com/example/netz/netz/net/SparseVector" "indices" "[I" (.ref t)) (F1_ : Fld Z h0 oo "com/example/netz/netz/net/SparseVector" "indices" "[I" (.ref u)) (F2_ : own_L Z h0 t .int ((own_il xs))) (F3_ : own_L Z h0 u .int ((own_il ys))) (hlx : (own_il xs).length.toInt32 = nx) (hnx : nx.toInt = xs.length) (hly : (own_il ys).length.toInt32 = ny) (hny : ny.toInt = ys.length) (hx2 : xs.length ≤ 2) (hy2 : ys.length ≤ 2) :
    MetFree l (⟨"com/example/netz/netz/net/SparseVector", "overlaps", "(Lcom/example/netz/netz/net/SparseVector;)Z"⟩ : MethodName) (head1 (Jvm.Cond.code (⟨"com/example/netz/netz/net/SparseVector", "overlaps", "(Lcom/example/netz/netz/net/SparseVector;)Z"⟩ : MethodName) prog_42_method_10_code 4 (some .boolean) :: ws) ({ frames := 0, cells := 0, slots := 0, locals := 0 } : Room)) (fun za U => za = #[(.ref d), (.ref oo)] ∧ Z.Warmed39 U.vm ∧ U.heap = h0) (fun _ _ _ _ _ => True) (fun _ U o U' => ∃ rv Lq, o = .returned rv ∧ Q9 Z d oo t u xs ys nx ny h0 n0 rv U'.heap Lq ∧ FrameEnd U o U' Lq ({ frames := 0, cells := 0, slots := 0, locals := 0 } : Room).cells ({ frames := 0, cells := 0, slots := 0, locals := 0 } : Room).slots) := by
  refine MetFree.of_bodySF (plainFor_of_name pn_1) hisR ?_
  intro p e s m args below meth c s₁ Bd hml0 hP hK
  obtain ⟨rfl, hZ, hh⟩ := hP
  have hx := Bd.exec
  have hby := Bd.bytes
  have hml : c.maxLocals = 4 := hml0
  have hown : s.vm.findClass "com/example/netz/netz/net/SparseVector" = some m.cls := findClass_of_methodNamed Bd.named
  have hnm := (name_of_methodNamed Bd.named Bd.method).1
  have X0 : Stand p l e ({ frames := 0, cells := 0, slots := 0, locals := 0 } : Room) s m #[(.ref d), (.ref oo)] below meth c s₁ [] 0 0 := Stand.of_body Bd
  have e0 : s₁.heap = h0 := by rw [← hh, Bd.state]; rfl
  have N0 := Fr.nil n0
  refine own_out (own_nm fun G hG => own_st (fun zt zk => castTop (ef_rm9 m d oo) zk) ?_)
  show own_Go p e below G (s₁.setTop (mkF m 0 #[.val (.ref d), .val (.ref oo), .unset, .unset] []))
  refine own_st (fun zw zk => XS.iconst X0.here hx rfl (hb hby d9_0) zk) ?_
  refine own_st (fun zw zk => XS.istoreN X0.here hx rfl (hb hby d9_1) rfl rfl zk) ?_
  show own_Go p e below G (s₁.setTop (mkF m 2 #[.val (.ref d), .val (.ref oo), .val (.int (0 : Int32)), .unset] []))
  refine own_st (fun zw zk => XS.iconst X0.here hx rfl (hb hby d9_2) zk) ?_
  refine own_st (fun zw zk => XS.istoreN X0.here hx rfl (hb hby d9_3) rfl rfl zk) ?_
  have loop4_16 : ∀ (bk : Nat) (ii : Int32) (jj : Int32) (ni : Nat) (nj : Nat) (Tj16 : State) (Lj16 : List Loc) (Xj16 : Stand p l e ({ frames := 0, cells := 0, slots := 0, locals := 0 } : Room) s m #[(.ref d), (.ref oo)] below meth c Tj16 Lj16 0 0) (ej16 : Tj16.heap = h0) (Nj16 : Fr n0 Lj16) (hi : ii.toInt = ni) (hj : jj.toInt = nj) (hni : ni ≤ xs.length) (hnj : nj ≤ ys.length) (hinv : own_ov (xs.drop ni) (ys.drop nj) = own_ov xs ys) (hbk : (xs.length - ni) + (ys.length - nj) < bk), own_Go p e below G (Tj16.setTop (mkF m 4 #[.val (.ref d), .val (.ref oo), .val (.int ii), .val (.int jj)] [])) := by
    intro bk
    induction bk with
    | zero =>
      intro ii jj ni nj Tj16 Lj16 Xj16 ej16 Nj16 hi hj hni hnj hinv hbk
      exact absurd hbk (Nat.not_lt_zero _)
    | succ bk ih =>
      intro ii jj ni nj Tj16 Lj16 Xj16 ej16 Nj16 hi hj hni hnj hinv hbk
      show own_Go p e below G (Tj16.setTop (mkF m 4 #[.val (.ref d), .val (.ref oo), .val (.int ii), .val (.int jj)] []))
      refine own_st (fun zw zk => XS.iloadN Xj16.here hx rfl (hb hby d9_4) rfl zk) ?_
      refine own_st (fun zw zk => XS.aloadN Xj16.here hx rfl (hb hby d9_5) rfl rfl zk) ?_
      obtain ⟨T17, X17, e17, st17⟩ := getF Xj16 hx hZ hown (host := "") (Or.inl (hw _ (List.mem_of_getElem? (i := 31) rfl))) Via.refl ej16 F0_ (g := (mkF m 6 #[.val (.ref d), .val (.ref oo), .val (.int ii), .val (.int jj)] [(.ref d), (.int ii)])) rfl rfl (hb hby d9_6)
      refine own_st (fun zw zk => st17 zw zk) ?_
      refine own_st (fun zw zk => own_len X17 hx hZ e17 F2_ (z := nx) (hlx) (g := (mkF m 9 #[.val (.ref d), .val (.ref oo), .val (.int ii), .val (.int jj)] [(.ref t), (.int ii)])) rfl rfl (hb hby d9_9) _ zk) ?_
      by_cases hc10 : ii < nx
      · refine own_st (fun zw zk => XS.icmpNo X17.here hx rfl (hb hby d9_10) rfl (tlt hc10).2.1 zk) ?_
        refine own_st (fun zw zk => XS.iloadN X17.here hx rfl (hb hby d9_13) rfl zk) ?_
        refine own_st (fun zw zk => XS.aloadN X17.here hx rfl (hb hby d9_14) rfl rfl zk) ?_
        obtain ⟨T18, X18, e18, st18⟩ := getF X17 hx hZ hown (host := "") (Or.inl (hw _ (List.mem_of_getElem? (i := 31) rfl))) Via.refl e17 F1_ (g := (mkF m 15 #[.val (.ref d), .val (.ref oo), .val (.int ii), .val (.int jj)] [(.ref oo), (.int jj)])) rfl rfl (hb hby d9_15)
        refine own_st (fun zw zk => st18 zw zk) ?_
        show own_Go p e below G (T18.setTop (mkF m 18 #[.val (.ref d), .val (.ref oo), .val (.int ii), .val (.int jj)] [(.ref u), (.int jj)]))
        refine own_st (fun zw zk => own_len X18 hx hZ e18 F3_ (z := ny) (hly) (g := (mkF m 18 #[.val (.ref d), .val (.ref oo), .val (.int ii), .val (.int jj)] [(.ref u), (.int jj)])) rfl rfl (hb hby d9_18) _ zk) ?_
        by_cases hc19 : jj < ny
        · refine own_st (fun zw zk => XS.icmpNo X18.here hx rfl (hb hby d9_19) rfl (tlt hc19).2.1 zk) ?_
          obtain ⟨x, hxx, hxd⟩ := own_drop (own_ltn hi hnx hc10)
          obtain ⟨y, hyy, hyd⟩ := own_drop (own_ltn hj hny hc19)
          refine own_st (fun zw zk => XS.aloadN X18.here hx rfl (hb hby d9_22) rfl rfl zk) ?_
          obtain ⟨T19, X19, e19, st19⟩ := getF X18 hx hZ hown (host := "") (Or.inl (hw _ (List.mem_of_getElem? (i := 31) rfl))) Via.refl e18 F0_ (g := (mkF m 23 #[.val (.ref d), .val (.ref oo), .val (.int ii), .val (.int jj)] [(.ref d)])) rfl rfl (hb hby d9_23)
          refine own_st (fun zw zk => st19 zw zk) ?_
          refine own_st (fun zw zk => XS.iloadN X19.here hx rfl (hb hby d9_26) rfl zk) ?_
          refine own_st (fun zw zk => own_ild X19 hx hZ e19 F2_ (j := ii) (v := (.int x)) (i := ni) (own_nn hi) (own_nat hi) (own_il_at hxx) (g := (mkF m 27 #[.val (.ref d), .val (.ref oo), .val (.int ii), .val (.int jj)] [(.int ii), (.ref t)])) rfl rfl (hb hby d9_27) _ zk) ?_
          refine own_st (fun zw zk => XS.aloadN X19.here hx rfl (hb hby d9_28) rfl rfl zk) ?_
          obtain ⟨T20, X20, e20, st20⟩ := getF X19 hx hZ hown (host := "") (Or.inl (hw _ (List.mem_of_getElem? (i := 31) rfl))) Via.refl e19 F1_ (g := (mkF m 29 #[.val (.ref d), .val (.ref oo), .val (.int ii), .val (.int jj)] [(.ref oo), (.int x)])) rfl rfl (hb hby d9_29)
          refine own_st (fun zw zk => st20 zw zk) ?_
          show own_Go p e below G (T20.setTop (mkF m 32 #[.val (.ref d), .val (.ref oo), .val (.int ii), .val (.int jj)] [(.ref u), (.int x)]))
          refine own_st (fun zw zk => XS.iloadN X20.here hx rfl (hb hby d9_32) rfl zk) ?_
          refine own_st (fun zw zk => own_ild X20 hx hZ e20 F3_ (j := jj) (v := (.int y)) (i := nj) (own_nn hj) (own_nat hj) (own_il_at hyy) (g := (mkF m 33 #[.val (.ref d), .val (.ref oo), .val (.int ii), .val (.int jj)] [(.int jj), (.ref u), (.int x)])) rfl rfl (hb hby d9_33) _ zk) ?_
          by_cases hc34 : x = y
          · refine own_st (fun zw zk => XS.icmpNo X20.here hx rfl (hb hby d9_34) rfl (teq hc34).2 zk) ?_
            refine own_st (fun zw zk => XS.iconst X20.here hx rfl (hb hby d9_37) zk) ?_
            subst hG
            obtain ⟨fs, hr, hrun, hended, hW, hsame⟩ := X20.leave (v := some (.int (1 : Int32))) (fun h => by rw [Bd.returns] at h; cases h)
            refine ⟨_, retN X20 hx (t := .boolean) Bd.returns (by simp) (hb hby d9_38) hr, _, hrun, hended, _, _, rfl, ?_, ⟨_, rfl⟩, hW, hsame.mono (by decide) (by decide)⟩
            show Q9 Z d oo t u xs ys nx ny h0 n0 _ T20.heap _
            rw [e20]
            exact ⟨by rw [← hinv, hxd, hyd, own_ov_cons, if_pos hc34], Nj16, rfl⟩
          · refine own_st (fun zw zk => XS.icmpYes X20.here hx rfl (pc0 := 34) (pc' := 39) rfl (hb hby d9_34) rfl (feq hc34).2 (by decide) (by decide) zk) ?_
            refine own_st (fun zw zk => XS.aloadN X20.here hx rfl (hb hby d9_39) rfl rfl zk) ?_
            obtain ⟨T21, X21, e21, st21⟩ := getF X20 hx hZ hown (host := "") (Or.inl (hw _ (List.mem_of_getElem? (i := 31) rfl))) Via.refl e20 F0_ (g := (mkF m 40 #[.val (.ref d), .val (.ref oo), .val (.int ii), .val (.int jj)] [(.ref d)])) rfl rfl (hb hby d9_40)
            refine own_st (fun zw zk => st21 zw zk) ?_
            refine own_st (fun zw zk => XS.iloadN X21.here hx rfl (hb hby d9_43) rfl zk) ?_
            refine own_st (fun zw zk => own_ild X21 hx hZ e21 F2_ (j := ii) (v := (.int x)) (i := ni) (own_nn hi) (own_nat hi) (own_il_at hxx) (g := (mkF m 44 #[.val (.ref d), .val (.ref oo), .val (.int ii), .val (.int jj)] [(.int ii), (.ref t)])) rfl rfl (hb hby d9_44) _ zk) ?_
            refine own_st (fun zw zk => XS.aloadN X21.here hx rfl (hb hby d9_45) rfl rfl zk) ?_
            show own_Go p e below G (T21.setTop (mkF m 46 #[.val (.ref d), .val (.ref oo), .val (.int ii), .val (.int jj)] [(.ref oo), (.int x)]))
            obtain ⟨T22, X22, e22, st22⟩ := getF X21 hx hZ hown (host := "") (Or.inl (hw _ (List.mem_of_getElem? (i := 31) rfl))) Via.refl e21 F1_ (g := (mkF m 46 #[.val (.ref d), .val (.ref oo), .val (.int ii), .val (.int jj)] [(.ref oo), (.int x)])) rfl rfl (hb hby d9_46)
            refine own_st (fun zw zk => st22 zw zk) ?_
            refine own_st (fun zw zk => XS.iloadN X22.here hx rfl (hb hby d9_49) rfl zk) ?_
            refine own_st (fun zw zk => own_ild X22 hx hZ e22 F3_ (j := jj) (v := (.int y)) (i := nj) (own_nn hj) (own_nat hj) (own_il_at hyy) (g := (mkF m 50 #[.val (.ref d), .val (.ref oo), .val (.int ii), .val (.int jj)] [(.int jj), (.ref u), (.int x)])) rfl rfl (hb hby d9_50) _ zk) ?_
            by_cases hc51 : x < y
            · refine own_st (fun zw zk => XS.icmpNo X22.here hx rfl (hb hby d9_51) rfl (tlt hc51).2.1 zk) ?_
              refine own_st (fun zw zk => XS.iinc X22.here hx rfl (hb hby d9_54) rfl rfl zk) ?_
              show own_Go p e below G (T22.setTop (mkF m 57 #[.val (.ref d), .val (.ref oo), .val (.int (ii + (1 : Int32))), .val (.int jj)] []))
              refine own_st (fun zw zk => XS.goto X22.here hx rfl (pc0 := 57) (pc' := 4) rfl (hb hby d9_57) (by decide) (by decide) zk) ?_
              show own_Go p e below G (T22.setTop (mkF m 4 #[.val (.ref d), .val (.ref oo), .val (.int (ii + (1 : Int32))), .val (.int jj)] []))
              exact ih (ii + (1 : Int32)) jj (ni + 1) (nj) _ _ X22 e22 Nj16 (own_up hi (by omega)) (hj) (own_ltn hi hnx hc10) (hnj) (by rw [← hinv, hxd, hyd, own_ov_cons, if_neg hc34, if_pos hc51]) (by have := own_ltn hi hnx hc10; omega)
            · refine own_st (fun zw zk => XS.icmpYes X22.here hx rfl (pc0 := 51) (pc' := 60) rfl (hb hby d9_51) rfl (flt hc51).2.1 (by decide) (by decide) zk) ?_
              refine own_st (fun zw zk => XS.iinc X22.here hx rfl (hb hby d9_60) rfl rfl zk) ?_
              show own_Go p e below G (T22.setTop (mkF m 63 #[.val (.ref d), .val (.ref oo), .val (.int ii), .val (.int (jj + (1 : Int32)))] []))
              refine own_st (fun zw zk => XS.goto X22.here hx rfl (pc0 := 63) (pc' := 4) rfl (hb hby d9_63) (by decide) (by decide) zk) ?_
              show own_Go p e below G (T22.setTop (mkF m 4 #[.val (.ref d), .val (.ref oo), .val (.int ii), .val (.int (jj + (1 : Int32)))] []))
              exact ih ii (jj + (1 : Int32)) (ni) (nj + 1) _ _ X22 e22 Nj16 (hi) (own_up hj (by omega)) (hni) (own_ltn hj hny hc19) (by rw [← hinv, hxd, hyd, own_ov_cons, if_neg hc34, if_neg hc51]) (by have := own_ltn hj hny hc19; omega)
        · refine own_st (fun zw zk => XS.icmpYes X18.here hx rfl (pc0 := 19) (pc' := 66) rfl (hb hby d9_19) rfl (flt hc19).2.1 (by decide) (by decide) zk) ?_
          refine own_st (fun zw zk => XS.iconst X18.here hx rfl (hb hby d9_66) zk) ?_
          subst hG
          obtain ⟨fs, hr, hrun, hended, hW, hsame⟩ := X18.leave (v := some (.int (0 : Int32))) (fun h => by rw [Bd.returns] at h; cases h)
          refine ⟨_, retN X18 hx (t := .boolean) Bd.returns (by simp) (hb hby d9_67) hr, _, hrun, hended, _, _, rfl, ?_, ⟨_, rfl⟩, hW, hsame.mono (by decide) (by decide)⟩
          show Q9 Z d oo t u xs ys nx ny h0 n0 _ T18.heap _
          rw [e18]
          exact ⟨by rw [← hinv, List.drop_eq_nil_of_le (own_geq hj hny hc19), own_ov_nil], Nj16, rfl⟩
      · refine own_st (fun zw zk => XS.icmpYes X17.here hx rfl (pc0 := 10) (pc' := 66) rfl (hb hby d9_10) rfl (flt hc10).2.1 (by decide) (by decide) zk) ?_
        refine own_st (fun zw zk => XS.iconst X17.here hx rfl (hb hby d9_66) zk) ?_
        subst hG
        obtain ⟨fs, hr, hrun, hended, hW, hsame⟩ := X17.leave (v := some (.int (0 : Int32))) (fun h => by rw [Bd.returns] at h; cases h)
        refine ⟨_, retN X17 hx (t := .boolean) Bd.returns (by simp) (hb hby d9_67) hr, _, hrun, hended, _, _, rfl, ?_, ⟨_, rfl⟩, hW, hsame.mono (by decide) (by decide)⟩
        show Q9 Z d oo t u xs ys nx ny h0 n0 _ T17.heap _
        rw [e17]
        exact ⟨by rw [← hinv, List.drop_eq_nil_of_le (own_geq hi hnx hc10), own_ov0], Nj16, rfl⟩
  show own_Go p e below G (s₁.setTop (mkF m 4 #[.val (.ref d), .val (.ref oo), .val (.int (0 : Int32)), .val (.int (0 : Int32))] []))
  exact loop4_16 _ (0 : Int32) (0 : Int32) (0) (0) _ _ X0 e0 N0 (by decide) (by decide) (Nat.zero_le _) (Nat.zero_le _) (by simp) (Nat.lt_succ_self _)
theorem pd_0 : parseMethodDescriptor "(II)I" = some ⟨[.int, .int], some .int⟩ := by decide +kernel
theorem pd_1 : parseMethodDescriptor "(I)Z" = some ⟨[.int], some .boolean⟩ := by decide +kernel
theorem pd_2 : parseMethodDescriptor "(III)Z" = some ⟨[.int, .int, .int], some .boolean⟩ := by decide +kernel
theorem pd_3 : parseMethodDescriptor "(ZZII)[I" = some ⟨[.boolean, .boolean, .int, .int], some (.array .int)⟩ := by decide +kernel
theorem pd_4 : parseMethodDescriptor "(IJ)[J" = some ⟨[.int, .long], some (.array .long)⟩ := by decide +kernel
theorem pd_5 : parseMethodDescriptor "([I[J)V" = some ⟨[(.array .int), (.array .long)], none⟩ := by decide +kernel
theorem pd_6 : parseMethodDescriptor "(Lcom/example/netz/netz/net/SparseVector;)Z" = some ⟨[(.object "com/example/netz/netz/net/SparseVector")], some .boolean⟩ := by decide +kernel
theorem ef_rm0 (m : MethodId) (p0 : Int32) (p1 : Int32) (p2 : Int32) (p3 : Int32) (p4 : Int32) (q5 : Int64) : entryFrame m #[(.int p0), (.int p1), (.int p2), (.int p3), (.int p4), (.long q5)] maxLocals = mkF m 0 #[.val (.int p0), .val (.int p1), .val (.int p2), .val (.int p3), .val (.int p4), .val (.long q5), .second, .unset, .unset, .unset, .unset, .unset, .unset, .unset, .unset, .unset, .unset, .unset, .unset, .unset, .unset] [] := by first | (simp [entryFrame, mkF, argsToLocals, Value.category, maxLocals]; done) | rfl
def Q0 (Z : State) (p0 : Int32) (p1 : Int32) (p2 : Int32) (p3 : Int32) (p4 : Int32) (q5 : Int64) (h0 : Heap) (n0 : Nat) (rv : Option Value) (hq : Heap) (Lq : List Loc) : Prop := rv = some (.int 1) ∧ Fr n0 Lq
set_option maxRecDepth 65536 in
set_option maxHeartbeats 40000000 in
theorem rm0 (l : Launch) (Z : State) (a0 : Array Value) (hw : ∀ d ∈ tables_1, d.before a0 Z = true) (ws : List Jvm.Cond) (p0 : Int32) (p1 : Int32) (p2 : Int32) (p3 : Int32) (p4 : Int32) (q5 : Int64) (h0 : Heap) (n0 : Nat) (Z0 : n0 ≤ h0.size) :
    MetFree l x (head1 (Jvm.Cond.code x code maxLocals ret :: ws) room_1) (fun za U => za = #[(.int p0), (.int p1), (.int p2), (.int p3), (.int p4), (.long q5)] ∧ Z.Warmed39 U.vm ∧ U.heap = h0) (fun _ _ _ _ _ => True) (fun _ U o U' => ∃ rv Lq, o = .returned rv ∧ Q0 Z p0 p1 p2 p3 p4 q5 h0 n0 rv U'.heap Lq ∧ FrameEnd U o U' Lq room_1.cells room_1.slots) := by
  refine MetFree.of_bodySF (plainFor_of_name pn_0) hisR ?_
  intro p e s m args below meth c s₁ Bd hml0 hP hK
  obtain ⟨rfl, hZ, hh⟩ := hP
  have hx := Bd.exec
  have hby := Bd.bytes
  have hml : c.maxLocals = 21 := hml0
  have hown : s.vm.findClass "com/example/netz/netz/net/SparseVectorOverlapsPinLaw" = some m.cls := findClass_of_methodNamed Bd.named
  have hnm := (name_of_methodNamed Bd.named Bd.method).1
  have X0 : Stand p l e room_1 s m #[(.int p0), (.int p1), (.int p2), (.int p3), (.int p4), (.long q5)] below meth c s₁ [] 0 0 := Stand.of_body Bd
  have e0 : s₁.heap = h0 := by rw [← hh, Bd.state]; rfl
  have N0 := Fr.nil n0
  refine own_out (own_nm fun G hG => own_st (fun zt zk => castTop (ef_rm0 m p0 p1 p2 p3 p4 q5) zk) ?_)
  show own_Go p e below G (s₁.setTop (mkF m 0 #[.val (.int p0), .val (.int p1), .val (.int p2), .val (.int p3), .val (.int p4), .val (.long q5), .second, .unset, .unset, .unset, .unset, .unset, .unset, .unset, .unset, .unset, .unset, .unset, .unset, .unset, .unset] []))
  refine own_st (fun zw zk => XS.iloadN X0.here hx rfl (hb hby at_0) rfl zk) ?_
  refine own_st (fun zw zk => XS.iloadN X0.here hx rfl (hb hby at_1) rfl zk) ?_
  obtain ⟨_, _, ⟨T23, L23, k23, n23⟩, -, X23, ⟨Lc23, hQ23, l23, y23, z23⟩, st23⟩ := Jvm.LawKit.callS X0 hx (y := (⟨"java/lang/Math", "min", "(II)I"⟩ : MethodName)) hown (mvT hZ (hw _ (List.mem_of_getElem? (i := 0) rfl))) (mvT hZ (hw _ (List.mem_of_getElem? (i := 1) rfl))) (mvT hZ (hw _ (List.mem_of_getElem? (i := 2) rfl))) (mvT hZ (hw _ (List.mem_of_getElem? (i := 3) rfl))) (by decide) (backOf (W := 0) (rm1 l Z a0 hw [] p0 p1 h0 n0 Z0) hZ (hw _ (List.mem_of_getElem? (i := 3) rfl)) (hw _ (List.mem_of_getElem? (i := 2) rfl)) (by decide) (by decide)) (g := (mkF m 2 #[.val (.int p0), .val (.int p1), .val (.int p2), .val (.int p3), .val (.int p4), .val (.long q5), .second, .unset, .unset, .unset, .unset, .unset, .unset, .unset, .unset, .unset, .unset, .unset, .unset, .unset, .unset] [(.int p1), (.int p0)])) rfl (by rw [hml]; rfl) (argsL := [(.int p0), (.int p1)]) (rest := []) (lenOf pd_0 rfl) rfl (by show 2 * 0 + _ ≤ _; exact Nat.le_of_eq rfl) (hb hby at_2) (fun _ _ => ⟨rfl, e0, (by decide : 0 + 0 ≤ _), (by decide : 0 + 0 ≤ _)⟩)
  dsimp only [Pt.U, Pt.locs, Pt.cells, Pt.slots] at X23 l23 y23 z23 st23 hQ23
  subst l23 y23 z23
  obtain ⟨rfl, N23q, e23⟩ := hQ23
  have N23 := Fr.app N0 N23q
  refine own_st (fun zw zk => st23 zw zk) ?_
  refine own_st (fun zw zk => XS.istore X23.here hx rfl (hb hby at_5) rfl rfl zk) ?_
  show own_Go p e below G (T23.setTop (mkF m 7 #[.val (.int p0), .val (.int p1), .val (.int p2), .val (.int p3), .val (.int p4), .val (.long q5), .second, .val (.int (own_mn p0 p1)), .unset, .unset, .unset, .unset, .unset, .unset, .unset, .unset, .unset, .unset, .unset, .unset, .unset] []))
  generalize hla : (own_mn p0 p1) = la
  refine own_st (fun zw zk => XS.iloadN X23.here hx rfl (hb hby at_7) rfl zk) ?_
  refine own_st (fun zw zk => XS.iloadN X23.here hx rfl (hb hby at_8) rfl zk) ?_
  obtain ⟨_, _, ⟨T24, L24, k24, n24⟩, -, X24, ⟨Lc24, hQ24, l24, y24, z24⟩, st24⟩ := Jvm.LawKit.callS X23 hx (y := (⟨"java/lang/Math", "max", "(II)I"⟩ : MethodName)) hown (mvT hZ (hw _ (List.mem_of_getElem? (i := 4) rfl))) (mvT hZ (hw _ (List.mem_of_getElem? (i := 5) rfl))) (mvT hZ (hw _ (List.mem_of_getElem? (i := 2) rfl))) (mvT hZ (hw _ (List.mem_of_getElem? (i := 6) rfl))) (by decide) (backOf (W := 0) (rm2 l Z a0 hw [] p0 p1 h0 n0 Z0) hZ (hw _ (List.mem_of_getElem? (i := 6) rfl)) (hw _ (List.mem_of_getElem? (i := 2) rfl)) (by decide) (by decide)) (g := (mkF m 9 #[.val (.int p0), .val (.int p1), .val (.int p2), .val (.int p3), .val (.int p4), .val (.long q5), .second, .val (.int la), .unset, .unset, .unset, .unset, .unset, .unset, .unset, .unset, .unset, .unset, .unset, .unset, .unset] [(.int p1), (.int p0)])) rfl (by rw [hml]; rfl) (argsL := [(.int p0), (.int p1)]) (rest := []) (lenOf pd_0 rfl) rfl (by show 2 * 0 + _ ≤ _; exact Nat.le_of_eq rfl) (hb hby at_9) (fun _ _ => ⟨rfl, e23, (by decide : 0 + 0 ≤ _), (by decide : 0 + 0 ≤ _)⟩)
  dsimp only [Pt.U, Pt.locs, Pt.cells, Pt.slots] at X24 l24 y24 z24 st24 hQ24
  subst l24 y24 z24
  obtain ⟨rfl, N24q, e24⟩ := hQ24
  have N24 := Fr.app N23 N24q
  refine own_st (fun zw zk => st24 zw zk) ?_
  refine own_st (fun zw zk => XS.istore X24.here hx rfl (hb hby at_12) rfl rfl zk) ?_
  show own_Go p e below G (T24.setTop (mkF m 14 #[.val (.int p0), .val (.int p1), .val (.int p2), .val (.int p3), .val (.int p4), .val (.long q5), .second, .val (.int la), .val (.int (own_mx p0 p1)), .unset, .unset, .unset, .unset, .unset, .unset, .unset, .unset, .unset, .unset, .unset, .unset] []))
  generalize hha : (own_mx p0 p1) = ha
  refine own_st (fun zw zk => XS.iloadN X24.here hx rfl (hb hby at_14) rfl zk) ?_
  refine own_st (fun zw zk => XS.iloadN X24.here hx rfl (hb hby at_15) rfl zk) ?_
  obtain ⟨_, _, ⟨T25, L25, k25, n25⟩, -, X25, ⟨Lc25, hQ25, l25, y25, z25⟩, st25⟩ := Jvm.LawKit.callS X24 hx (y := (⟨"java/lang/Math", "min", "(II)I"⟩ : MethodName)) hown (mvT hZ (hw _ (List.mem_of_getElem? (i := 0) rfl))) (mvT hZ (hw _ (List.mem_of_getElem? (i := 1) rfl))) (mvT hZ (hw _ (List.mem_of_getElem? (i := 2) rfl))) (mvT hZ (hw _ (List.mem_of_getElem? (i := 3) rfl))) (by decide) (backOf (W := 0) (rm1 l Z a0 hw [] p2 p3 h0 n0 Z0) hZ (hw _ (List.mem_of_getElem? (i := 3) rfl)) (hw _ (List.mem_of_getElem? (i := 2) rfl)) (by decide) (by decide)) (g := (mkF m 16 #[.val (.int p0), .val (.int p1), .val (.int p2), .val (.int p3), .val (.int p4), .val (.long q5), .second, .val (.int la), .val (.int ha), .unset, .unset, .unset, .unset, .unset, .unset, .unset, .unset, .unset, .unset, .unset, .unset] [(.int p3), (.int p2)])) rfl (by rw [hml]; rfl) (argsL := [(.int p2), (.int p3)]) (rest := []) (lenOf pd_0 rfl) rfl (by show 2 * 0 + _ ≤ _; exact Nat.le_of_eq rfl) (hb hby at_16) (fun _ _ => ⟨rfl, e24, (by decide : 0 + 0 ≤ _), (by decide : 0 + 0 ≤ _)⟩)
  dsimp only [Pt.U, Pt.locs, Pt.cells, Pt.slots] at X25 l25 y25 z25 st25 hQ25
  subst l25 y25 z25
  obtain ⟨rfl, N25q, e25⟩ := hQ25
  have N25 := Fr.app N24 N25q
  refine own_st (fun zw zk => st25 zw zk) ?_
  refine own_st (fun zw zk => XS.istore X25.here hx rfl (hb hby at_19) rfl rfl zk) ?_
  show own_Go p e below G (T25.setTop (mkF m 21 #[.val (.int p0), .val (.int p1), .val (.int p2), .val (.int p3), .val (.int p4), .val (.long q5), .second, .val (.int la), .val (.int ha), .val (.int (own_mn p2 p3)), .unset, .unset, .unset, .unset, .unset, .unset, .unset, .unset, .unset, .unset, .unset] []))
  generalize hlb : (own_mn p2 p3) = lb
  refine own_st (fun zw zk => XS.iloadN X25.here hx rfl (hb hby at_21) rfl zk) ?_
  refine own_st (fun zw zk => XS.iloadN X25.here hx rfl (hb hby at_22) rfl zk) ?_
  obtain ⟨_, _, ⟨T26, L26, k26, n26⟩, -, X26, ⟨Lc26, hQ26, l26, y26, z26⟩, st26⟩ := Jvm.LawKit.callS X25 hx (y := (⟨"java/lang/Math", "max", "(II)I"⟩ : MethodName)) hown (mvT hZ (hw _ (List.mem_of_getElem? (i := 4) rfl))) (mvT hZ (hw _ (List.mem_of_getElem? (i := 5) rfl))) (mvT hZ (hw _ (List.mem_of_getElem? (i := 2) rfl))) (mvT hZ (hw _ (List.mem_of_getElem? (i := 6) rfl))) (by decide) (backOf (W := 0) (rm2 l Z a0 hw [] p2 p3 h0 n0 Z0) hZ (hw _ (List.mem_of_getElem? (i := 6) rfl)) (hw _ (List.mem_of_getElem? (i := 2) rfl)) (by decide) (by decide)) (g := (mkF m 23 #[.val (.int p0), .val (.int p1), .val (.int p2), .val (.int p3), .val (.int p4), .val (.long q5), .second, .val (.int la), .val (.int ha), .val (.int lb), .unset, .unset, .unset, .unset, .unset, .unset, .unset, .unset, .unset, .unset, .unset] [(.int p3), (.int p2)])) rfl (by rw [hml]; rfl) (argsL := [(.int p2), (.int p3)]) (rest := []) (lenOf pd_0 rfl) rfl (by show 2 * 0 + _ ≤ _; exact Nat.le_of_eq rfl) (hb hby at_23) (fun _ _ => ⟨rfl, e25, (by decide : 0 + 0 ≤ _), (by decide : 0 + 0 ≤ _)⟩)
  dsimp only [Pt.U, Pt.locs, Pt.cells, Pt.slots] at X26 l26 y26 z26 st26 hQ26
  subst l26 y26 z26
  obtain ⟨rfl, N26q, e26⟩ := hQ26
  have N26 := Fr.app N25 N26q
  refine own_st (fun zw zk => st26 zw zk) ?_
  refine own_st (fun zw zk => XS.istore X26.here hx rfl (hb hby at_26) rfl rfl zk) ?_
  show own_Go p e below G (T26.setTop (mkF m 28 #[.val (.int p0), .val (.int p1), .val (.int p2), .val (.int p3), .val (.int p4), .val (.long q5), .second, .val (.int la), .val (.int ha), .val (.int lb), .val (.int (own_mx p2 p3)), .unset, .unset, .unset, .unset, .unset, .unset, .unset, .unset, .unset, .unset] []))
  generalize hhb_ : (own_mx p2 p3) = hb_
  refine own_st (fun zw zk => XS.iload X26.here hx rfl (hb hby at_28) rfl zk) ?_
  obtain ⟨_, _, ⟨T27, L27, k27, n27⟩, -, X27, ⟨Lc27, hQ27, l27, y27, z27⟩, st27⟩ := Jvm.LawKit.callS X26 hx (y := (⟨"com/example/netz/netz/net/SparseVectorOverlapsPinLaw", "useLo", "(I)Z"⟩ : MethodName)) hown (mvT hZ (hw _ (List.mem_of_getElem? (i := 7) rfl))) (mvT hZ (hw _ (List.mem_of_getElem? (i := 8) rfl))) (mvT hZ (hw _ (List.mem_of_getElem? (i := 9) rfl))) (mvT hZ (hw _ (List.mem_of_getElem? (i := 10) rfl))) (by decide) (backOf (W := 0) (rm3 l Z a0 hw [] p4 h0 n0 Z0) hZ (hw _ (List.mem_of_getElem? (i := 10) rfl)) (hw _ (List.mem_of_getElem? (i := 9) rfl)) (by decide) (by decide)) (g := (mkF m 30 #[.val (.int p0), .val (.int p1), .val (.int p2), .val (.int p3), .val (.int p4), .val (.long q5), .second, .val (.int la), .val (.int ha), .val (.int lb), .val (.int hb_), .unset, .unset, .unset, .unset, .unset, .unset, .unset, .unset, .unset, .unset] [(.int p4)])) rfl (by rw [hml]; rfl) (argsL := [(.int p4)]) (rest := []) (lenOf pd_1 rfl) rfl (by show 2 * 0 + _ ≤ _; exact Nat.le_of_eq rfl) (hb hby at_30) (fun _ _ => ⟨rfl, e26, (by decide : 0 + 0 ≤ _), (by decide : 0 + 0 ≤ _)⟩)
  dsimp only [Pt.U, Pt.locs, Pt.cells, Pt.slots] at X27 l27 y27 z27 st27 hQ27
  subst l27 y27 z27
  obtain ⟨rfl, N27q, e27⟩ := hQ27
  have N27 := Fr.app N26 N27q
  refine own_st (fun zw zk => st27 zw zk) ?_
  refine own_st (fun zw zk => XS.istore X27.here hx rfl (hb hby at_33) rfl rfl zk) ?_
  show own_Go p e below G (T27.setTop (mkF m 35 #[.val (.int p0), .val (.int p1), .val (.int p2), .val (.int p3), .val (.int p4), .val (.long q5), .second, .val (.int la), .val (.int ha), .val (.int lb), .val (.int hb_), .val (.int (own_lo p4)), .unset, .unset, .unset, .unset, .unset, .unset, .unset, .unset, .unset] []))
  generalize haL : (own_lo p4) = aL
  refine own_st (fun zw zk => XS.iload X27.here hx rfl (hb hby at_35) rfl zk) ?_
  refine own_st (fun zw zk => XS.iload X27.here hx rfl (hb hby at_37) rfl zk) ?_
  refine own_st (fun zw zk => XS.iload X27.here hx rfl (hb hby at_39) rfl zk) ?_
  obtain ⟨_, _, ⟨T28, L28, k28, n28⟩, -, X28, ⟨Lc28, hQ28, l28, y28, z28⟩, st28⟩ := Jvm.LawKit.callS X27 hx (y := (⟨"com/example/netz/netz/net/SparseVectorOverlapsPinLaw", "useHi", "(III)Z"⟩ : MethodName)) hown (mvT hZ (hw _ (List.mem_of_getElem? (i := 11) rfl))) (mvT hZ (hw _ (List.mem_of_getElem? (i := 12) rfl))) (mvT hZ (hw _ (List.mem_of_getElem? (i := 9) rfl))) (mvT hZ (hw _ (List.mem_of_getElem? (i := 13) rfl))) (by decide) (backOf (W := 0) (rm4 l Z a0 hw [] p4 la ha h0 n0 Z0) hZ (hw _ (List.mem_of_getElem? (i := 13) rfl)) (hw _ (List.mem_of_getElem? (i := 9) rfl)) (by decide) (by decide)) (g := (mkF m 41 #[.val (.int p0), .val (.int p1), .val (.int p2), .val (.int p3), .val (.int p4), .val (.long q5), .second, .val (.int la), .val (.int ha), .val (.int lb), .val (.int hb_), .val (.int aL), .unset, .unset, .unset, .unset, .unset, .unset, .unset, .unset, .unset] [(.int ha), (.int la), (.int p4)])) rfl (by rw [hml]; rfl) (argsL := [(.int p4), (.int la), (.int ha)]) (rest := []) (lenOf pd_2 rfl) rfl (by show 2 * 0 + _ ≤ _; exact Nat.le_of_eq rfl) (hb hby at_41) (fun _ _ => ⟨rfl, e27, (by decide : 0 + 0 ≤ _), (by decide : 0 + 0 ≤ _)⟩)
  dsimp only [Pt.U, Pt.locs, Pt.cells, Pt.slots] at X28 l28 y28 z28 st28 hQ28
  subst l28 y28 z28
  obtain ⟨rfl, N28q, e28⟩ := hQ28
  have N28 := Fr.app N27 N28q
  refine own_st (fun zw zk => st28 zw zk) ?_
  refine own_st (fun zw zk => XS.istore X28.here hx rfl (hb hby at_44) rfl rfl zk) ?_
  show own_Go p e below G (T28.setTop (mkF m 46 #[.val (.int p0), .val (.int p1), .val (.int p2), .val (.int p3), .val (.int p4), .val (.long q5), .second, .val (.int la), .val (.int ha), .val (.int lb), .val (.int hb_), .val (.int aL), .val (.int (own_hh p4 la ha)), .unset, .unset, .unset, .unset, .unset, .unset, .unset, .unset] []))
  generalize haH : (own_hh p4 la ha) = aH
  refine own_st (fun zw zk => XS.iload X28.here hx rfl (hb hby at_46) rfl zk) ?_
  refine own_st (fun zw zk => XS.iconst X28.here hx rfl (hb hby at_48) zk) ?_
  refine own_st (fun zw zk => XS.iushr X28.here hx rfl (hb hby at_49) rfl zk) ?_
  refine own_st (fun zw zk => XS.istore X28.here hx rfl (hb hby at_50) rfl rfl zk) ?_
  show own_Go p e below G (T28.setTop (mkF m 52 #[.val (.int p0), .val (.int p1), .val (.int p2), .val (.int p3), .val (.int p4), .val (.long q5), .second, .val (.int la), .val (.int ha), .val (.int lb), .val (.int hb_), .val (.int aL), .val (.int aH), .val (.int ((p4.toUInt32 >>> ((2 : Int32) &&& 31).toUInt32).toInt32)), .unset, .unset, .unset, .unset, .unset, .unset, .unset] []))
  refine own_st (fun zw zk => XS.iload X28.here hx rfl (hb hby at_52) rfl zk) ?_
  obtain ⟨_, _, ⟨T29, L29, k29, n29⟩, -, X29, ⟨Lc29, hQ29, l29, y29, z29⟩, st29⟩ := Jvm.LawKit.callS X28 hx (y := (⟨"com/example/netz/netz/net/SparseVectorOverlapsPinLaw", "useLo", "(I)Z"⟩ : MethodName)) hown (mvT hZ (hw _ (List.mem_of_getElem? (i := 7) rfl))) (mvT hZ (hw _ (List.mem_of_getElem? (i := 8) rfl))) (mvT hZ (hw _ (List.mem_of_getElem? (i := 9) rfl))) (mvT hZ (hw _ (List.mem_of_getElem? (i := 10) rfl))) (by decide) (backOf (W := 0) (rm3 l Z a0 hw [] ((p4.toUInt32 >>> ((2 : Int32) &&& 31).toUInt32).toInt32) h0 n0 Z0) hZ (hw _ (List.mem_of_getElem? (i := 10) rfl)) (hw _ (List.mem_of_getElem? (i := 9) rfl)) (by decide) (by decide)) (g := (mkF m 54 #[.val (.int p0), .val (.int p1), .val (.int p2), .val (.int p3), .val (.int p4), .val (.long q5), .second, .val (.int la), .val (.int ha), .val (.int lb), .val (.int hb_), .val (.int aL), .val (.int aH), .val (.int ((p4.toUInt32 >>> ((2 : Int32) &&& 31).toUInt32).toInt32)), .unset, .unset, .unset, .unset, .unset, .unset, .unset] [(.int ((p4.toUInt32 >>> ((2 : Int32) &&& 31).toUInt32).toInt32))])) rfl (by rw [hml]; rfl) (argsL := [(.int ((p4.toUInt32 >>> ((2 : Int32) &&& 31).toUInt32).toInt32))]) (rest := []) (lenOf pd_1 rfl) rfl (by show 2 * 0 + _ ≤ _; exact Nat.le_of_eq rfl) (hb hby at_54) (fun _ _ => ⟨rfl, e28, (by decide : 0 + 0 ≤ _), (by decide : 0 + 0 ≤ _)⟩)
  dsimp only [Pt.U, Pt.locs, Pt.cells, Pt.slots] at X29 l29 y29 z29 st29 hQ29
  subst l29 y29 z29
  obtain ⟨rfl, N29q, e29⟩ := hQ29
  have N29 := Fr.app N28 N29q
  refine own_st (fun zw zk => st29 zw zk) ?_
  refine own_st (fun zw zk => XS.istore X29.here hx rfl (hb hby at_57) rfl rfl zk) ?_
  show own_Go p e below G (T29.setTop (mkF m 59 #[.val (.int p0), .val (.int p1), .val (.int p2), .val (.int p3), .val (.int p4), .val (.long q5), .second, .val (.int la), .val (.int ha), .val (.int lb), .val (.int hb_), .val (.int aL), .val (.int aH), .val (.int ((p4.toUInt32 >>> ((2 : Int32) &&& 31).toUInt32).toInt32)), .val (.int (own_lo ((p4.toUInt32 >>> ((2 : Int32) &&& 31).toUInt32).toInt32))), .unset, .unset, .unset, .unset, .unset, .unset] []))
  generalize hbL : (own_lo ((p4.toUInt32 >>> ((2 : Int32) &&& 31).toUInt32).toInt32)) = bL
  refine own_st (fun zw zk => XS.iload X29.here hx rfl (hb hby at_59) rfl zk) ?_
  refine own_st (fun zw zk => XS.iload X29.here hx rfl (hb hby at_61) rfl zk) ?_
  refine own_st (fun zw zk => XS.iload X29.here hx rfl (hb hby at_63) rfl zk) ?_
  obtain ⟨_, _, ⟨T30, L30, k30, n30⟩, -, X30, ⟨Lc30, hQ30, l30, y30, z30⟩, st30⟩ := Jvm.LawKit.callS X29 hx (y := (⟨"com/example/netz/netz/net/SparseVectorOverlapsPinLaw", "useHi", "(III)Z"⟩ : MethodName)) hown (mvT hZ (hw _ (List.mem_of_getElem? (i := 11) rfl))) (mvT hZ (hw _ (List.mem_of_getElem? (i := 12) rfl))) (mvT hZ (hw _ (List.mem_of_getElem? (i := 9) rfl))) (mvT hZ (hw _ (List.mem_of_getElem? (i := 13) rfl))) (by decide) (backOf (W := 0) (rm4 l Z a0 hw [] ((p4.toUInt32 >>> ((2 : Int32) &&& 31).toUInt32).toInt32) lb hb_ h0 n0 Z0) hZ (hw _ (List.mem_of_getElem? (i := 13) rfl)) (hw _ (List.mem_of_getElem? (i := 9) rfl)) (by decide) (by decide)) (g := (mkF m 65 #[.val (.int p0), .val (.int p1), .val (.int p2), .val (.int p3), .val (.int p4), .val (.long q5), .second, .val (.int la), .val (.int ha), .val (.int lb), .val (.int hb_), .val (.int aL), .val (.int aH), .val (.int ((p4.toUInt32 >>> ((2 : Int32) &&& 31).toUInt32).toInt32)), .val (.int bL), .unset, .unset, .unset, .unset, .unset, .unset] [(.int hb_), (.int lb), (.int ((p4.toUInt32 >>> ((2 : Int32) &&& 31).toUInt32).toInt32))])) rfl (by rw [hml]; rfl) (argsL := [(.int ((p4.toUInt32 >>> ((2 : Int32) &&& 31).toUInt32).toInt32)), (.int lb), (.int hb_)]) (rest := []) (lenOf pd_2 rfl) rfl (by show 2 * 0 + _ ≤ _; exact Nat.le_of_eq rfl) (hb hby at_65) (fun _ _ => ⟨rfl, e29, (by decide : 0 + 0 ≤ _), (by decide : 0 + 0 ≤ _)⟩)
  dsimp only [Pt.U, Pt.locs, Pt.cells, Pt.slots] at X30 l30 y30 z30 st30 hQ30
  subst l30 y30 z30
  obtain ⟨rfl, N30q, e30⟩ := hQ30
  have N30 := Fr.app N29 N30q
  refine own_st (fun zw zk => st30 zw zk) ?_
  refine own_st (fun zw zk => XS.istore X30.here hx rfl (hb hby at_68) rfl rfl zk) ?_
  show own_Go p e below G (T30.setTop (mkF m 70 #[.val (.int p0), .val (.int p1), .val (.int p2), .val (.int p3), .val (.int p4), .val (.long q5), .second, .val (.int la), .val (.int ha), .val (.int lb), .val (.int hb_), .val (.int aL), .val (.int aH), .val (.int ((p4.toUInt32 >>> ((2 : Int32) &&& 31).toUInt32).toInt32)), .val (.int bL), .val (.int (own_hh ((p4.toUInt32 >>> ((2 : Int32) &&& 31).toUInt32).toInt32) lb hb_)), .unset, .unset, .unset, .unset, .unset] []))
  generalize hbH : (own_hh ((p4.toUInt32 >>> ((2 : Int32) &&& 31).toUInt32).toInt32) lb hb_) = bH
  have h1 : ¬ (aL = 0) → ¬ (aH = 0) → la < ha := by rw [← haL, ← haH, ← hla, ← hha]; exact own_strict _ _ _
  have h2 : ¬ (bL = 0) → ¬ (bH = 0) → lb < hb_ := by rw [← hbL, ← hbH, ← hlb, ← hhb_]; exact own_strict _ _ _
  refine own_st (fun zw zk => XS.iload X30.here hx rfl (hb hby at_70) rfl zk) ?_
  refine own_st (fun zw zk => XS.iload X30.here hx rfl (hb hby at_72) rfl zk) ?_
  refine own_st (fun zw zk => XS.iload X30.here hx rfl (hb hby at_74) rfl zk) ?_
  refine own_st (fun zw zk => XS.iload X30.here hx rfl (hb hby at_76) rfl zk) ?_
  obtain ⟨_, _, ⟨T31, L31, k31, n31⟩, -, X31, ⟨Lc31, hQ31, l31, y31, z31⟩, st31⟩ := Jvm.LawKit.callS X30 hx (y := (⟨"com/example/netz/netz/net/SparseVectorOverlapsPinLaw", "indices", "(ZZII)[I"⟩ : MethodName)) hown (mvT hZ (hw _ (List.mem_of_getElem? (i := 14) rfl))) (mvT hZ (hw _ (List.mem_of_getElem? (i := 15) rfl))) (mvT hZ (hw _ (List.mem_of_getElem? (i := 9) rfl))) (mvT hZ (hw _ (List.mem_of_getElem? (i := 16) rfl))) (by decide) (backOf (W := 0) (rm5 l Z a0 hw [] aL aH la ha h0 n0 Z0) hZ (hw _ (List.mem_of_getElem? (i := 16) rfl)) (hw _ (List.mem_of_getElem? (i := 9) rfl)) (by decide) (by decide)) (g := (mkF m 78 #[.val (.int p0), .val (.int p1), .val (.int p2), .val (.int p3), .val (.int p4), .val (.long q5), .second, .val (.int la), .val (.int ha), .val (.int lb), .val (.int hb_), .val (.int aL), .val (.int aH), .val (.int ((p4.toUInt32 >>> ((2 : Int32) &&& 31).toUInt32).toInt32)), .val (.int bL), .val (.int bH), .unset, .unset, .unset, .unset, .unset] [(.int ha), (.int la), (.int aH), (.int aL)])) rfl (by rw [hml]; rfl) (argsL := [(.int aL), (.int aH), (.int la), (.int ha)]) (rest := []) (lenOf pd_3 rfl) rfl (by show 2 * 0 + _ ≤ _; exact Nat.le_of_eq rfl) (hb hby at_78) (fun _ _ => ⟨rfl, e30, (by decide : 0 + 1 ≤ _), (by decide : 0 + 2 ≤ _)⟩)
  dsimp only [Pt.U, Pt.locs, Pt.cells, Pt.slots] at X31 l31 y31 z31 st31 hQ31
  subst l31 y31 z31
  obtain ⟨b31, rfl, N31q, sz31, K31, R31_0⟩ := hQ31
  have G31 : n0 ≤ b31 := Nat.le_trans Z0 sz31
  have Z31 : n0 ≤ T31.heap.size := Nat.le_trans Z0 K31.1
  have N31 := Fr.app N30 N31q
  refine own_st (fun zw zk => st31 zw zk) ?_
  refine own_st (fun zw zk => XS.astore X31.here hx rfl (hb hby at_81) rfl rfl rfl zk) ?_
  show own_Go p e below G (T31.setTop (mkF m 83 #[.val (.int p0), .val (.int p1), .val (.int p2), .val (.int p3), .val (.int p4), .val (.long q5), .second, .val (.int la), .val (.int ha), .val (.int lb), .val (.int hb_), .val (.int aL), .val (.int aH), .val (.int ((p4.toUInt32 >>> ((2 : Int32) &&& 31).toUInt32).toInt32)), .val (.int bL), .val (.int bH), .val (.ref b31), .unset, .unset, .unset, .unset] []))
  refine own_st (fun zw zk => XS.iload X31.here hx rfl (hb hby at_83) rfl zk) ?_
  refine own_st (fun zw zk => XS.iload X31.here hx rfl (hb hby at_85) rfl zk) ?_
  refine own_st (fun zw zk => XS.iload X31.here hx rfl (hb hby at_87) rfl zk) ?_
  refine own_st (fun zw zk => XS.iload X31.here hx rfl (hb hby at_89) rfl zk) ?_
  obtain ⟨_, _, ⟨T32, L32, k32, n32⟩, -, X32, ⟨Lc32, hQ32, l32, y32, z32⟩, st32⟩ := Jvm.LawKit.callS X31 hx (y := (⟨"com/example/netz/netz/net/SparseVectorOverlapsPinLaw", "indices", "(ZZII)[I"⟩ : MethodName)) hown (mvT hZ (hw _ (List.mem_of_getElem? (i := 14) rfl))) (mvT hZ (hw _ (List.mem_of_getElem? (i := 15) rfl))) (mvT hZ (hw _ (List.mem_of_getElem? (i := 9) rfl))) (mvT hZ (hw _ (List.mem_of_getElem? (i := 16) rfl))) (by decide) (backOf (W := 0) (rm5 l Z a0 hw [] bL bH lb hb_ T31.heap n0 Z31) hZ (hw _ (List.mem_of_getElem? (i := 16) rfl)) (hw _ (List.mem_of_getElem? (i := 9) rfl)) (by decide) (by decide)) (g := (mkF m 91 #[.val (.int p0), .val (.int p1), .val (.int p2), .val (.int p3), .val (.int p4), .val (.long q5), .second, .val (.int la), .val (.int ha), .val (.int lb), .val (.int hb_), .val (.int aL), .val (.int aH), .val (.int ((p4.toUInt32 >>> ((2 : Int32) &&& 31).toUInt32).toInt32)), .val (.int bL), .val (.int bH), .val (.ref b31), .unset, .unset, .unset, .unset] [(.int hb_), (.int lb), (.int bH), (.int bL)])) rfl (by rw [hml]; rfl) (argsL := [(.int bL), (.int bH), (.int lb), (.int hb_)]) (rest := []) (lenOf pd_3 rfl) rfl (by show 2 * 0 + _ ≤ _; exact Nat.le_of_eq rfl) (hb hby at_91) (fun _ _ => ⟨rfl, rfl, (by decide : 1 + 1 ≤ _), (by decide : 2 + 2 ≤ _)⟩)
  dsimp only [Pt.U, Pt.locs, Pt.cells, Pt.slots] at X32 l32 y32 z32 st32 hQ32
  subst l32 y32 z32
  obtain ⟨b32, rfl, N32q, sz32, K32, R32_0⟩ := hQ32
  have ne_b31_b32 : b31 ≠ b32 := Nat.ne_of_lt (Nat.lt_of_lt_of_le R31_0.lt sz32)
  have G32 : n0 ≤ b32 := Nat.le_trans Z31 sz32
  have Rb31L_32 := R31_0.keep K32 nin0
  have Z32 : n0 ≤ T32.heap.size := Nat.le_trans Z31 K32.1
  have N32 := Fr.app N31 N32q
  refine own_st (fun zw zk => st32 zw zk) ?_
  refine own_st (fun zw zk => XS.astore X32.here hx rfl (hb hby at_94) rfl rfl rfl zk) ?_
  show own_Go p e below G (T32.setTop (mkF m 96 #[.val (.int p0), .val (.int p1), .val (.int p2), .val (.int p3), .val (.int p4), .val (.long q5), .second, .val (.int la), .val (.int ha), .val (.int lb), .val (.int hb_), .val (.int aL), .val (.int aH), .val (.int ((p4.toUInt32 >>> ((2 : Int32) &&& 31).toUInt32).toInt32)), .val (.int bL), .val (.int bH), .val (.ref b31), .val (.ref b32), .unset, .unset, .unset] []))
  obtain ⟨T33, h33, X33, e33, E33, A33, D33, -, st33⟩ := newO X32 hx hZ hown (hw _ (List.mem_of_getElem? (i := 18) rfl)) (hw _ (List.mem_of_getElem? (i := 19) rfl)) (hw _ (List.mem_of_getElem? (i := 20) rfl)) rfl (g := (mkF m 96 #[.val (.int p0), .val (.int p1), .val (.int p2), .val (.int p3), .val (.int p4), .val (.long q5), .second, .val (.int la), .val (.int ha), .val (.int lb), .val (.int hb_), .val (.int aL), .val (.int aH), .val (.int ((p4.toUInt32 >>> ((2 : Int32) &&& 31).toUInt32).toInt32)), .val (.int bL), .val (.int bH), .val (.ref b31), .val (.ref b32), .unset, .unset, .unset] [])) rfl (hb hby at_96) (by decide) (by decide)
  obtain ⟨b33, g33⟩ : ∃ z, z = T32.heap.size := ⟨_, rfl⟩
  rw [← g33] at A33 D33 st33
  have G33 : n0 ≤ b33 := Nat.le_trans Z32 (Nat.le_of_eq g33.symm)
  have ne_b31_b33 : b31 ≠ b33 := Nat.ne_of_lt (Nat.lt_of_lt_of_le Rb31L_32.lt (Nat.le_of_eq g33.symm))
  have ne_b32_b33 : b32 ≠ b33 := Nat.ne_of_lt (Nat.lt_of_lt_of_le R32_0.lt (Nat.le_of_eq g33.symm))
  have Rb31L_33 := Rb31L_32.ext E33
  have Rb32L_33 := R32_0.ext E33
  have Z33 : n0 ≤ h33.size := Nat.le_trans Z32 E33.1
  have Fb33indices : Fld Z h33 b33 "com/example/netz/netz/net/SparseVector" "indices" "[I" .null := D33 (Or.inr (hw _ (List.mem_of_getElem? (i := 32) rfl))) (ty := (.array .int)) (by decide)
  have Fb33values : Fld Z h33 b33 "com/example/netz/netz/net/SparseVector" "values" "[J" .null := D33 (Or.inr (hw _ (List.mem_of_getElem? (i := 34) rfl))) (ty := (.array .long)) (by decide)
  refine own_st (fun zw zk => st33 zw zk) ?_
  refine own_st (fun zw zk => XS.dup X33.here hx rfl (hb hby at_99) rfl rfl zk) ?_
  refine own_st (fun zw zk => XS.aload X33.here hx rfl (hb hby at_100) rfl rfl zk) ?_
  refine own_st (fun zw zk => XS.aload X33.here hx rfl (hb hby at_102) rfl rfl zk) ?_
  refine own_st (fun zw zk => own_len X33 hx hZ e33 Rb31L_33 (z := ((own_ix aL aH la ha).length.toInt32)) (congrArg Nat.toInt32 (own_il_len _)) (g := (mkF m 104 #[.val (.int p0), .val (.int p1), .val (.int p2), .val (.int p3), .val (.int p4), .val (.long q5), .second, .val (.int la), .val (.int ha), .val (.int lb), .val (.int hb_), .val (.int aL), .val (.int aH), .val (.int ((p4.toUInt32 >>> ((2 : Int32) &&& 31).toUInt32).toInt32)), .val (.int bL), .val (.int bH), .val (.ref b31), .val (.ref b32), .unset, .unset, .unset] [(.ref b31), (.ref b31), (.ref b33), (.ref b33)])) rfl rfl (hb hby at_104) _ zk) ?_
  refine own_st (fun zw zk => XS.lload X33.here hx rfl (hb hby at_105) rfl zk) ?_
  obtain ⟨_, _, ⟨T34, L34, k34, n34⟩, -, X34, ⟨Lc34, hQ34, l34, y34, z34⟩, st34⟩ := Jvm.LawKit.callS X33 hx (y := (⟨"com/example/netz/netz/net/SparseVectorOverlapsPinLaw", "values", "(IJ)[J"⟩ : MethodName)) hown (mvT hZ (hw _ (List.mem_of_getElem? (i := 21) rfl))) (mvT hZ (hw _ (List.mem_of_getElem? (i := 22) rfl))) (mvT hZ (hw _ (List.mem_of_getElem? (i := 9) rfl))) (mvT hZ (hw _ (List.mem_of_getElem? (i := 23) rfl))) (by decide) (backOf (W := 3) (rm6 l Z a0 hw [] ((own_ix aL aH la ha).length.toInt32) q5 ((own_ix aL aH la ha).length) h33 n0 Z33 (own_toi (own_ix2 _ _ _ _)) (own_ix2 _ _ _ _)) hZ (hw _ (List.mem_of_getElem? (i := 23) rfl)) (hw _ (List.mem_of_getElem? (i := 9) rfl)) (by decide) (by decide)) (g := (mkF m 107 #[.val (.int p0), .val (.int p1), .val (.int p2), .val (.int p3), .val (.int p4), .val (.long q5), .second, .val (.int la), .val (.int ha), .val (.int lb), .val (.int hb_), .val (.int aL), .val (.int aH), .val (.int ((p4.toUInt32 >>> ((2 : Int32) &&& 31).toUInt32).toInt32)), .val (.int bL), .val (.int bH), .val (.ref b31), .val (.ref b32), .unset, .unset, .unset] [(.long q5), (.int ((own_ix aL aH la ha).length.toInt32)), (.ref b31), (.ref b33), (.ref b33)])) rfl (by rw [hml]; rfl) (argsL := [(.int ((own_ix aL aH la ha).length.toInt32)), (.long q5)]) (rest := [(.ref b31), (.ref b33), (.ref b33)]) (lenOf pd_4 rfl) rfl (by show 2 * 0 + _ ≤ _; exact Nat.le_of_eq rfl) (hb hby at_107) (fun _ _ => ⟨rfl, e33, (by decide : 3 + 1 ≤ _), (by decide : 6 + 2 ≤ _)⟩)
  dsimp only [Pt.U, Pt.locs, Pt.cells, Pt.slots] at X34 l34 y34 z34 st34 hQ34
  subst l34 y34 z34
  obtain ⟨b34, rfl, N34q, sz34, K34⟩ := hQ34
  have ne_b31_b34 : b31 ≠ b34 := Nat.ne_of_lt (Nat.lt_of_lt_of_le Rb31L_33.lt sz34)
  have ne_b32_b34 : b32 ≠ b34 := Nat.ne_of_lt (Nat.lt_of_lt_of_le Rb32L_33.lt sz34)
  have ne_b33_b34 : b33 ≠ b34 := Nat.ne_of_lt (Nat.lt_of_lt_of_le Fb33indices.lt sz34)
  have G34 : n0 ≤ b34 := Nat.le_trans Z33 sz34
  have Rb31L_34 := Rb31L_33.keep K34 nin0
  have Rb32L_34 := Rb32L_33.keep K34 nin0
  have Fb33indices_34 := Fb33indices.keep K34 nin0
  have Fb33values_34 := Fb33values.keep K34 nin0
  have Ab33_34 := A33.keep K34
  have Z34 : n0 ≤ T34.heap.size := Nat.le_trans Z33 K34.1
  have N34 := Fr.app N32 N34q
  refine own_st (fun zw zk => st34 zw zk) ?_
  obtain ⟨_, _, ⟨T35, L35, k35, n35⟩, -, X35, ⟨Lc35, hQ35, l35, y35, z35⟩, st35⟩ := X34.specialBack hx (y := (⟨"com/example/netz/netz/net/SparseVector", "<init>", "([I[J)V"⟩ : MethodName)) rfl hown (mvT hZ (hw _ (List.mem_of_getElem? (i := 25) rfl))) (mvT hZ (hw _ (List.mem_of_getElem? (i := 26) rfl))) (mvT hZ (hw _ (List.mem_of_getElem? (i := 27) rfl))) (by decide) (backOf (W := 1) (rm7 l Z a0 hw [] b33 b31 b34 T34.heap n0 Z34 (Ab33_34) (Fb33indices_34) (Fb33values_34) (G33)) hZ (hw _ (List.mem_of_getElem? (i := 27) rfl)) (hw _ (List.mem_of_getElem? (i := 20) rfl)) (by decide) (by decide)) (g := (mkF m 110 #[.val (.int p0), .val (.int p1), .val (.int p2), .val (.int p3), .val (.int p4), .val (.long q5), .second, .val (.int la), .val (.int ha), .val (.int lb), .val (.int hb_), .val (.int aL), .val (.int aH), .val (.int ((p4.toUInt32 >>> ((2 : Int32) &&& 31).toUInt32).toInt32)), .val (.int bL), .val (.int bH), .val (.ref b31), .val (.ref b32), .unset, .unset, .unset] [(.ref b34), (.ref b31), (.ref b33), (.ref b33)])) rfl (by rw [hml]; rfl) (Steps.refl _) (a := b33) (argsL := [(.ref b31), (.ref b34)]) (rest := [(.ref b33)]) (lenOf pd_5 rfl) rfl (by show 2 * 0 + _ ≤ _; exact Nat.le_of_eq rfl) (hb hby at_110) (fun _ _ => ⟨rfl, rfl, (by decide : 4 + 0 ≤ _), (by decide : 8 + 0 ≤ _)⟩)
  dsimp only [Pt.U, Pt.locs, Pt.cells, Pt.slots] at X35 l35 y35 z35 st35 hQ35
  subst l35 y35 z35
  obtain ⟨rfl, N35q, K35, O35_0, O35_1⟩ := hQ35
  have Rb31L_35 := Rb31L_34.keep K35 (ninS ne_b31_b33 nin0)
  have Rb32L_35 := Rb32L_34.keep K35 (ninS ne_b32_b33 nin0)
  have Ab33_35 := Ab33_34.keep K35
  have Z35 : n0 ≤ T35.heap.size := Nat.le_trans Z34 K35.1
  have N35 := Fr.app N34 N35q
  refine own_jp st35 ?_
  show own_Go p e below G (T35.setTop (mkF m 113 #[.val (.int p0), .val (.int p1), .val (.int p2), .val (.int p3), .val (.int p4), .val (.long q5), .second, .val (.int la), .val (.int ha), .val (.int lb), .val (.int hb_), .val (.int aL), .val (.int aH), .val (.int ((p4.toUInt32 >>> ((2 : Int32) &&& 31).toUInt32).toInt32)), .val (.int bL), .val (.int bH), .val (.ref b31), .val (.ref b32), .unset, .unset, .unset] [(.ref b33)]))
  refine own_st (fun zw zk => XS.astore X35.here hx rfl (hb hby at_113) rfl rfl rfl zk) ?_
  show own_Go p e below G (T35.setTop (mkF m 115 #[.val (.int p0), .val (.int p1), .val (.int p2), .val (.int p3), .val (.int p4), .val (.long q5), .second, .val (.int la), .val (.int ha), .val (.int lb), .val (.int hb_), .val (.int aL), .val (.int aH), .val (.int ((p4.toUInt32 >>> ((2 : Int32) &&& 31).toUInt32).toInt32)), .val (.int bL), .val (.int bH), .val (.ref b31), .val (.ref b32), .val (.ref b33), .unset, .unset] []))
  obtain ⟨T36, h36, X36, e36, E36, A36, D36, -, st36⟩ := newO X35 hx hZ hown (hw _ (List.mem_of_getElem? (i := 18) rfl)) (hw _ (List.mem_of_getElem? (i := 19) rfl)) (hw _ (List.mem_of_getElem? (i := 20) rfl)) rfl (g := (mkF m 115 #[.val (.int p0), .val (.int p1), .val (.int p2), .val (.int p3), .val (.int p4), .val (.long q5), .second, .val (.int la), .val (.int ha), .val (.int lb), .val (.int hb_), .val (.int aL), .val (.int aH), .val (.int ((p4.toUInt32 >>> ((2 : Int32) &&& 31).toUInt32).toInt32)), .val (.int bL), .val (.int bH), .val (.ref b31), .val (.ref b32), .val (.ref b33), .unset, .unset] [])) rfl (hb hby at_115) (by decide) (by decide)
  obtain ⟨b36, g36⟩ : ∃ z, z = T35.heap.size := ⟨_, rfl⟩
  rw [← g36] at A36 D36 st36
  have G36 : n0 ≤ b36 := Nat.le_trans Z35 (Nat.le_of_eq g36.symm)
  have ne_b31_b36 : b31 ≠ b36 := Nat.ne_of_lt (Nat.lt_of_lt_of_le Rb31L_35.lt (Nat.le_of_eq g36.symm))
  have ne_b32_b36 : b32 ≠ b36 := Nat.ne_of_lt (Nat.lt_of_lt_of_le Rb32L_35.lt (Nat.le_of_eq g36.symm))
  have ne_b33_b36 : b33 ≠ b36 := Nat.ne_of_lt (Nat.lt_of_lt_of_le O35_0.lt (Nat.le_of_eq g36.symm))
  have Rb31L_36 := Rb31L_35.ext E36
  have Rb32L_36 := Rb32L_35.ext E36
  have Ob33E_36 := O35_0.ext E36
  have Ob33indices_36 := O35_1.ext E36
  have Z36 : n0 ≤ h36.size := Nat.le_trans Z35 E36.1
  have Fb36indices : Fld Z h36 b36 "com/example/netz/netz/net/SparseVector" "indices" "[I" .null := D36 (Or.inr (hw _ (List.mem_of_getElem? (i := 32) rfl))) (ty := (.array .int)) (by decide)
  have Fb36values : Fld Z h36 b36 "com/example/netz/netz/net/SparseVector" "values" "[J" .null := D36 (Or.inr (hw _ (List.mem_of_getElem? (i := 34) rfl))) (ty := (.array .long)) (by decide)
  refine own_st (fun zw zk => st36 zw zk) ?_
  refine own_st (fun zw zk => XS.dup X36.here hx rfl (hb hby at_118) rfl rfl zk) ?_
  refine own_st (fun zw zk => XS.aload X36.here hx rfl (hb hby at_119) rfl rfl zk) ?_
  refine own_st (fun zw zk => XS.aload X36.here hx rfl (hb hby at_121) rfl rfl zk) ?_
  refine own_st (fun zw zk => own_len X36 hx hZ e36 Rb32L_36 (z := ((own_ix bL bH lb hb_).length.toInt32)) (congrArg Nat.toInt32 (own_il_len _)) (g := (mkF m 123 #[.val (.int p0), .val (.int p1), .val (.int p2), .val (.int p3), .val (.int p4), .val (.long q5), .second, .val (.int la), .val (.int ha), .val (.int lb), .val (.int hb_), .val (.int aL), .val (.int aH), .val (.int ((p4.toUInt32 >>> ((2 : Int32) &&& 31).toUInt32).toInt32)), .val (.int bL), .val (.int bH), .val (.ref b31), .val (.ref b32), .val (.ref b33), .unset, .unset] [(.ref b32), (.ref b32), (.ref b36), (.ref b36)])) rfl rfl (hb hby at_123) _ zk) ?_
  refine own_st (fun zw zk => XS.lload X36.here hx rfl (hb hby at_124) rfl zk) ?_
  refine own_st (fun zw zk => XS.iconst X36.here hx rfl (hb hby at_126) zk) ?_
  refine own_st (fun zw zk => XS.lushr X36.here hx rfl (hb hby at_127) rfl zk) ?_
  show own_Go p e below G (T36.setTop (mkF m 128 #[.val (.int p0), .val (.int p1), .val (.int p2), .val (.int p3), .val (.int p4), .val (.long q5), .second, .val (.int la), .val (.int ha), .val (.int lb), .val (.int hb_), .val (.int aL), .val (.int aH), .val (.int ((p4.toUInt32 >>> ((2 : Int32) &&& 31).toUInt32).toInt32)), .val (.int bL), .val (.int bH), .val (.ref b31), .val (.ref b32), .val (.ref b33), .unset, .unset] [(.long ((q5.toUInt64 >>> ((3 : Int32) &&& 0x3f).toInt64.toUInt64).toInt64)), (.int ((own_ix bL bH lb hb_).length.toInt32)), (.ref b32), (.ref b36), (.ref b36)]))
  obtain ⟨_, _, ⟨T37, L37, k37, n37⟩, -, X37, ⟨Lc37, hQ37, l37, y37, z37⟩, st37⟩ := Jvm.LawKit.callS X36 hx (y := (⟨"com/example/netz/netz/net/SparseVectorOverlapsPinLaw", "values", "(IJ)[J"⟩ : MethodName)) hown (mvT hZ (hw _ (List.mem_of_getElem? (i := 21) rfl))) (mvT hZ (hw _ (List.mem_of_getElem? (i := 22) rfl))) (mvT hZ (hw _ (List.mem_of_getElem? (i := 9) rfl))) (mvT hZ (hw _ (List.mem_of_getElem? (i := 23) rfl))) (by decide) (backOf (W := 3) (rm6 l Z a0 hw [] ((own_ix bL bH lb hb_).length.toInt32) ((q5.toUInt64 >>> ((3 : Int32) &&& 0x3f).toInt64.toUInt64).toInt64) ((own_ix bL bH lb hb_).length) h36 n0 Z36 (own_toi (own_ix2 _ _ _ _)) (own_ix2 _ _ _ _)) hZ (hw _ (List.mem_of_getElem? (i := 23) rfl)) (hw _ (List.mem_of_getElem? (i := 9) rfl)) (by decide) (by decide)) (g := (mkF m 128 #[.val (.int p0), .val (.int p1), .val (.int p2), .val (.int p3), .val (.int p4), .val (.long q5), .second, .val (.int la), .val (.int ha), .val (.int lb), .val (.int hb_), .val (.int aL), .val (.int aH), .val (.int ((p4.toUInt32 >>> ((2 : Int32) &&& 31).toUInt32).toInt32)), .val (.int bL), .val (.int bH), .val (.ref b31), .val (.ref b32), .val (.ref b33), .unset, .unset] [(.long ((q5.toUInt64 >>> ((3 : Int32) &&& 0x3f).toInt64.toUInt64).toInt64)), (.int ((own_ix bL bH lb hb_).length.toInt32)), (.ref b32), (.ref b36), (.ref b36)])) rfl (by rw [hml]; rfl) (argsL := [(.int ((own_ix bL bH lb hb_).length.toInt32)), (.long ((q5.toUInt64 >>> ((3 : Int32) &&& 0x3f).toInt64.toUInt64).toInt64))]) (rest := [(.ref b32), (.ref b36), (.ref b36)]) (lenOf pd_4 rfl) rfl (by show 2 * 0 + _ ≤ _; exact Nat.le_of_eq rfl) (hb hby at_128) (fun _ _ => ⟨rfl, e36, (by decide : 5 + 1 ≤ _), (by decide : 10 + 2 ≤ _)⟩)
  dsimp only [Pt.U, Pt.locs, Pt.cells, Pt.slots] at X37 l37 y37 z37 st37 hQ37
  subst l37 y37 z37
  obtain ⟨b37, rfl, N37q, sz37, K37⟩ := hQ37
  have ne_b31_b37 : b31 ≠ b37 := Nat.ne_of_lt (Nat.lt_of_lt_of_le Rb31L_36.lt sz37)
  have ne_b32_b37 : b32 ≠ b37 := Nat.ne_of_lt (Nat.lt_of_lt_of_le Rb32L_36.lt sz37)
  have ne_b33_b37 : b33 ≠ b37 := Nat.ne_of_lt (Nat.lt_of_lt_of_le Ob33E_36.lt sz37)
  have ne_b36_b37 : b36 ≠ b37 := Nat.ne_of_lt (Nat.lt_of_lt_of_le Fb36indices.lt sz37)
  have G37 : n0 ≤ b37 := Nat.le_trans Z36 sz37
  have Rb31L_37 := Rb31L_36.keep K37 nin0
  have Rb32L_37 := Rb32L_36.keep K37 nin0
  have Ob33E_37 := Ob33E_36.keep K37
  have Ob33indices_37 := Ob33indices_36.keep K37 nin0
  have Fb36indices_37 := Fb36indices.keep K37 nin0
  have Fb36values_37 := Fb36values.keep K37 nin0
  have Ab36_37 := A36.keep K37
  have Z37 : n0 ≤ T37.heap.size := Nat.le_trans Z36 K37.1
  have N37 := Fr.app N35 N37q
  refine own_st (fun zw zk => st37 zw zk) ?_
  obtain ⟨_, _, ⟨T38, L38, k38, n38⟩, -, X38, ⟨Lc38, hQ38, l38, y38, z38⟩, st38⟩ := X37.specialBack hx (y := (⟨"com/example/netz/netz/net/SparseVector", "<init>", "([I[J)V"⟩ : MethodName)) rfl hown (mvT hZ (hw _ (List.mem_of_getElem? (i := 25) rfl))) (mvT hZ (hw _ (List.mem_of_getElem? (i := 26) rfl))) (mvT hZ (hw _ (List.mem_of_getElem? (i := 27) rfl))) (by decide) (backOf (W := 1) (rm7 l Z a0 hw [] b36 b32 b37 T37.heap n0 Z37 (Ab36_37) (Fb36indices_37) (Fb36values_37) (G36)) hZ (hw _ (List.mem_of_getElem? (i := 27) rfl)) (hw _ (List.mem_of_getElem? (i := 20) rfl)) (by decide) (by decide)) (g := (mkF m 131 #[.val (.int p0), .val (.int p1), .val (.int p2), .val (.int p3), .val (.int p4), .val (.long q5), .second, .val (.int la), .val (.int ha), .val (.int lb), .val (.int hb_), .val (.int aL), .val (.int aH), .val (.int ((p4.toUInt32 >>> ((2 : Int32) &&& 31).toUInt32).toInt32)), .val (.int bL), .val (.int bH), .val (.ref b31), .val (.ref b32), .val (.ref b33), .unset, .unset] [(.ref b37), (.ref b32), (.ref b36), (.ref b36)])) rfl (by rw [hml]; rfl) (Steps.refl _) (a := b36) (argsL := [(.ref b32), (.ref b37)]) (rest := [(.ref b36)]) (lenOf pd_5 rfl) rfl (by show 2 * 0 + _ ≤ _; exact Nat.le_of_eq rfl) (hb hby at_131) (fun _ _ => ⟨rfl, rfl, (by decide : 6 + 0 ≤ _), (by decide : 12 + 0 ≤ _)⟩)
  dsimp only [Pt.U, Pt.locs, Pt.cells, Pt.slots] at X38 l38 y38 z38 st38 hQ38
  subst l38 y38 z38
  obtain ⟨rfl, N38q, K38, O38_0, O38_1⟩ := hQ38
  have Rb31L_38 := Rb31L_37.keep K38 (ninS ne_b31_b36 nin0)
  have Rb32L_38 := Rb32L_37.keep K38 (ninS ne_b32_b36 nin0)
  have Ob33E_38 := Ob33E_37.keep K38
  have Ob33indices_38 := Ob33indices_37.keep K38 (ninS ne_b33_b36 nin0)
  have Ab36_38 := Ab36_37.keep K38
  have Z38 : n0 ≤ T38.heap.size := Nat.le_trans Z37 K38.1
  have N38 := Fr.app N37 N38q
  refine own_jp st38 ?_
  refine own_st (fun zw zk => XS.astore X38.here hx rfl (hb hby at_134) rfl rfl rfl zk) ?_
  have J201_39 : ∀ (e20 : Int32) (hex : (e20 = 1 ∧ own_P aL aH bL bH la ha lb hb_) ∨ (e20 = 0 ∧ ¬ own_P aL aH bL bH la ha lb hb_)), own_Go p e below G (T38.setTop (mkF m 201 #[.val (.int p0), .val (.int p1), .val (.int p2), .val (.int p3), .val (.int p4), .val (.long q5), .second, .val (.int la), .val (.int ha), .val (.int lb), .val (.int hb_), .val (.int aL), .val (.int aH), .val (.int ((p4.toUInt32 >>> ((2 : Int32) &&& 31).toUInt32).toInt32)), .val (.int bL), .val (.int bH), .val (.ref b31), .val (.ref b32), .val (.ref b33), .val (.ref b36), .val (.int e20)] [])) := by
    intro e20 hex
    show own_Go p e below G (T38.setTop (mkF m 201 #[.val (.int p0), .val (.int p1), .val (.int p2), .val (.int p3), .val (.int p4), .val (.long q5), .second, .val (.int la), .val (.int ha), .val (.int lb), .val (.int hb_), .val (.int aL), .val (.int aH), .val (.int ((p4.toUInt32 >>> ((2 : Int32) &&& 31).toUInt32).toInt32)), .val (.int bL), .val (.int bH), .val (.ref b31), .val (.ref b32), .val (.ref b33), .val (.ref b36), .val (.int e20)] []))
    refine own_st (fun zw zk => XS.aload X38.here hx rfl (hb hby at_201) rfl rfl zk) ?_
    refine own_st (fun zw zk => XS.aload X38.here hx rfl (hb hby at_203) rfl rfl zk) ?_
    obtain ⟨cq40, kq40, q40a, q40b, q40c⟩ := isOf hZ rfl Ob33E_38
    obtain ⟨_, _, ⟨T40, L40, k40, n40⟩, -, X40, ⟨Lc40, hQ40, l40, y40, z40⟩, st40⟩ := X38.virtualBack hx (y := (⟨"com/example/netz/netz/net/SparseVector", "overlaps", "(Lcom/example/netz/netz/net/SparseVector;)Z"⟩ : MethodName)) (z := (⟨"com/example/netz/netz/net/SparseVector", "overlaps", "(Lcom/example/netz/netz/net/SparseVector;)Z"⟩ : MethodName)) hown (mvT hZ (hw _ (List.mem_of_getElem? (i := 35) rfl))) (mvT hZ (hw _ (List.mem_of_getElem? (i := 36) rfl))) (notFace_of_selects (args := #[]) (mvT hZ (hw _ (List.mem_of_getElem? (i := 38) rfl)))) (mvT hZ (hw _ (List.mem_of_getElem? (i := 38) rfl))) (mvT hZ (hw _ (List.mem_of_getElem? (i := 37) rfl))) (by decide) (backOf (W := 0) (rm9 l Z a0 hw [] b33 b36 b31 b32 (own_ix aL aH la ha) (own_ix bL bH lb hb_) ((own_ix aL aH la ha).length.toInt32) ((own_ix bL bH lb hb_).length.toInt32) T38.heap n0 Z38 (Ob33indices_38) (O38_1) (Rb31L_38) (Rb32L_38) (congrArg Nat.toInt32 (own_il_len _)) (own_toi (own_ix2 _ _ _ _)) (congrArg Nat.toInt32 (own_il_len _)) (own_toi (own_ix2 _ _ _ _)) (own_ix2 _ _ _ _) (own_ix2 _ _ _ _)) hZ (hw _ (List.mem_of_getElem? (i := 39) rfl)) (hw _ (List.mem_of_getElem? (i := 20) rfl)) (by decide) (by decide)) q40a q40c (g := (mkF m 205 #[.val (.int p0), .val (.int p1), .val (.int p2), .val (.int p3), .val (.int p4), .val (.long q5), .second, .val (.int la), .val (.int ha), .val (.int lb), .val (.int hb_), .val (.int aL), .val (.int aH), .val (.int ((p4.toUInt32 >>> ((2 : Int32) &&& 31).toUInt32).toInt32)), .val (.int bL), .val (.int bH), .val (.ref b31), .val (.ref b32), .val (.ref b33), .val (.ref b36), .val (.int e20)] [(.ref b36), (.ref b33)])) rfl (by rw [hml]; rfl) (Steps.refl _) (argsL := [(.ref b36)]) (rest := []) (lenOf pd_6 rfl) rfl (by show 2 * 0 + _ ≤ _; exact Nat.le_of_eq rfl) (hb hby at_205) (fun _ _ => ⟨rfl, rfl, (by decide : 6 + 0 ≤ _), (by decide : 12 + 0 ≤ _)⟩)
    dsimp only [Pt.U, Pt.locs, Pt.cells, Pt.slots] at X40 l40 y40 z40 st40 hQ40
    subst l40 y40 z40
    obtain ⟨rfl, N40q, e40⟩ := hQ40
    have N40 := Fr.app N38 N40q
    refine own_jp st40 ?_
    refine own_st (fun zw zk => XS.iload X40.here hx rfl (hb hby at_208) rfl zk) ?_
    have hc210 : (own_ov (own_ix aL aH la ha) (own_ix bL bH lb hb_)) = e20 := own_plain h1 h2 hex
    refine own_st (fun zw zk => XS.icmpNo X40.here hx rfl (hb hby at_210) rfl (teq hc210).2 zk) ?_
    refine own_st (fun zw zk => XS.aload X40.here hx rfl (hb hby at_213) rfl rfl zk) ?_
    refine own_st (fun zw zk => XS.aload X40.here hx rfl (hb hby at_215) rfl rfl zk) ?_
    obtain ⟨cq41, kq41, q41a, q41b, q41c⟩ := isOf hZ e40 O38_0
    obtain ⟨_, _, ⟨T41, L41, k41, n41⟩, -, X41, ⟨Lc41, hQ41, l41, y41, z41⟩, st41⟩ := X40.virtualBack hx (y := (⟨"com/example/netz/netz/net/SparseVector", "overlaps", "(Lcom/example/netz/netz/net/SparseVector;)Z"⟩ : MethodName)) (z := (⟨"com/example/netz/netz/net/SparseVector", "overlaps", "(Lcom/example/netz/netz/net/SparseVector;)Z"⟩ : MethodName)) hown (mvT hZ (hw _ (List.mem_of_getElem? (i := 35) rfl))) (mvT hZ (hw _ (List.mem_of_getElem? (i := 36) rfl))) (notFace_of_selects (args := #[]) (mvT hZ (hw _ (List.mem_of_getElem? (i := 38) rfl)))) (mvT hZ (hw _ (List.mem_of_getElem? (i := 38) rfl))) (mvT hZ (hw _ (List.mem_of_getElem? (i := 37) rfl))) (by decide) (backOf (W := 0) (rm9 l Z a0 hw [] b36 b33 b32 b31 (own_ix bL bH lb hb_) (own_ix aL aH la ha) ((own_ix bL bH lb hb_).length.toInt32) ((own_ix aL aH la ha).length.toInt32) T38.heap n0 Z38 (O38_1) (Ob33indices_38) (Rb32L_38) (Rb31L_38) (congrArg Nat.toInt32 (own_il_len _)) (own_toi (own_ix2 _ _ _ _)) (congrArg Nat.toInt32 (own_il_len _)) (own_toi (own_ix2 _ _ _ _)) (own_ix2 _ _ _ _) (own_ix2 _ _ _ _)) hZ (hw _ (List.mem_of_getElem? (i := 39) rfl)) (hw _ (List.mem_of_getElem? (i := 20) rfl)) (by decide) (by decide)) q41a q41c (g := (mkF m 217 #[.val (.int p0), .val (.int p1), .val (.int p2), .val (.int p3), .val (.int p4), .val (.long q5), .second, .val (.int la), .val (.int ha), .val (.int lb), .val (.int hb_), .val (.int aL), .val (.int aH), .val (.int ((p4.toUInt32 >>> ((2 : Int32) &&& 31).toUInt32).toInt32)), .val (.int bL), .val (.int bH), .val (.ref b31), .val (.ref b32), .val (.ref b33), .val (.ref b36), .val (.int e20)] [(.ref b33), (.ref b36)])) rfl (by rw [hml]; rfl) (Steps.refl _) (argsL := [(.ref b33)]) (rest := []) (lenOf pd_6 rfl) rfl (by show 2 * 0 + _ ≤ _; exact Nat.le_of_eq rfl) (hb hby at_217) (fun _ _ => ⟨rfl, e40, (by decide : 6 + 0 ≤ _), (by decide : 12 + 0 ≤ _)⟩)
    dsimp only [Pt.U, Pt.locs, Pt.cells, Pt.slots] at X41 l41 y41 z41 st41 hQ41
    subst l41 y41 z41
    obtain ⟨rfl, N41q, e41⟩ := hQ41
    have N41 := Fr.app N40 N41q
    refine own_jp st41 ?_
    show own_Go p e below G (T41.setTop (mkF m 220 #[.val (.int p0), .val (.int p1), .val (.int p2), .val (.int p3), .val (.int p4), .val (.long q5), .second, .val (.int la), .val (.int ha), .val (.int lb), .val (.int hb_), .val (.int aL), .val (.int aH), .val (.int ((p4.toUInt32 >>> ((2 : Int32) &&& 31).toUInt32).toInt32)), .val (.int bL), .val (.int bH), .val (.ref b31), .val (.ref b32), .val (.ref b33), .val (.ref b36), .val (.int e20)] [(.int (own_ov (own_ix bL bH lb hb_) (own_ix aL aH la ha)))]))
    refine own_st (fun zw zk => XS.iload X41.here hx rfl (hb hby at_220) rfl zk) ?_
    have hc222 : (own_ov (own_ix bL bH lb hb_) (own_ix aL aH la ha)) = e20 := own_plain2 h1 h2 hex
    refine own_st (fun zw zk => XS.icmpNo X41.here hx rfl (hb hby at_222) rfl (teq hc222).2 zk) ?_
    refine own_st (fun zw zk => XS.iconst X41.here hx rfl (hb hby at_225) zk) ?_
    refine own_st (fun zw zk => XS.goto X41.here hx rfl (pc0 := 226) (pc' := 230) rfl (hb hby at_226) (by decide) (by decide) zk) ?_
    show own_Go p e below G (T41.setTop (mkF m 230 #[.val (.int p0), .val (.int p1), .val (.int p2), .val (.int p3), .val (.int p4), .val (.long q5), .second, .val (.int la), .val (.int ha), .val (.int lb), .val (.int hb_), .val (.int aL), .val (.int aH), .val (.int ((p4.toUInt32 >>> ((2 : Int32) &&& 31).toUInt32).toInt32)), .val (.int bL), .val (.int bH), .val (.ref b31), .val (.ref b32), .val (.ref b33), .val (.ref b36), .val (.int e20)] [(.int (1 : Int32))]))
    subst hG
    obtain ⟨fs, hr, hrun, hended, hW, hsame⟩ := X41.leave (v := some (.int (1 : Int32))) (fun h => by rw [Bd.returns] at h; cases h)
    refine ⟨_, retN X41 hx (t := .boolean) Bd.returns (by simp) (hb hby at_230) hr, _, hrun, hended, _, _, rfl, ?_, ⟨_, rfl⟩, hW, hsame.mono (by decide) (by decide)⟩
    show Q0 Z p0 p1 p2 p3 p4 q5 h0 n0 _ T41.heap _
    rw [e41]
    exact ⟨rfl, N41⟩
  show own_Go p e below G (T38.setTop (mkF m 136 #[.val (.int p0), .val (.int p1), .val (.int p2), .val (.int p3), .val (.int p4), .val (.long q5), .second, .val (.int la), .val (.int ha), .val (.int lb), .val (.int hb_), .val (.int aL), .val (.int aH), .val (.int ((p4.toUInt32 >>> ((2 : Int32) &&& 31).toUInt32).toInt32)), .val (.int bL), .val (.int bH), .val (.ref b31), .val (.ref b32), .val (.ref b33), .val (.ref b36), .unset] []))
  refine own_st (fun zw zk => XS.iload X38.here hx rfl (hb hby at_136) rfl zk) ?_
  by_cases hc138 : aL = (0 : Int32)
  · refine own_st (fun zw zk => XS.ifYes X38.here hx rfl (pc0 := 138) (pc' := 165) rfl (hb hby at_138) rfl ((if0 _ _).trans (teq hc138).1) (by decide) (by decide) zk) ?_
    refine own_st (fun zw zk => XS.iload X38.here hx rfl (hb hby at_165) rfl zk) ?_
    by_cases hc167 : aH = (0 : Int32)
    · refine own_st (fun zw zk => XS.ifYes X38.here hx rfl (pc0 := 167) (pc' := 198) rfl (hb hby at_167) rfl ((if0 _ _).trans (teq hc167).1) (by decide) (by decide) zk) ?_
      refine own_st (fun zw zk => XS.iconst X38.here hx rfl (hb hby at_198) zk) ?_
      refine own_st (fun zw zk => XS.istore X38.here hx rfl (hb hby at_199) rfl rfl zk) ?_
      show own_Go p e below G (T38.setTop (mkF m 201 #[.val (.int p0), .val (.int p1), .val (.int p2), .val (.int p3), .val (.int p4), .val (.long q5), .second, .val (.int la), .val (.int ha), .val (.int lb), .val (.int hb_), .val (.int aL), .val (.int aH), .val (.int ((p4.toUInt32 >>> ((2 : Int32) &&& 31).toUInt32).toInt32)), .val (.int bL), .val (.int bH), .val (.ref b31), .val (.ref b32), .val (.ref b33), .val (.ref b36), .val (.int (0 : Int32))] []))
      exact J201_39 (0 : Int32) (by unfold own_P; simp [hc138, hc167])
    · refine own_st (fun zw zk => XS.ifNo X38.here hx rfl (hb hby at_167) rfl ((if0 _ _).trans (feq hc167).1) zk) ?_
      refine own_st (fun zw zk => XS.iload X38.here hx rfl (hb hby at_170) rfl zk) ?_
      by_cases hc172 : bL = (0 : Int32)
      · refine own_st (fun zw zk => XS.ifYes X38.here hx rfl (pc0 := 172) (pc' := 182) rfl (hb hby at_172) rfl ((if0 _ _).trans (teq hc172).1) (by decide) (by decide) zk) ?_
        refine own_st (fun zw zk => XS.iload X38.here hx rfl (hb hby at_182) rfl zk) ?_
        by_cases hc184 : bH = (0 : Int32)
        · refine own_st (fun zw zk => XS.ifYes X38.here hx rfl (pc0 := 184) (pc' := 198) rfl (hb hby at_184) rfl ((if0 _ _).trans (teq hc184).1) (by decide) (by decide) zk) ?_
          show own_Go p e below G (T38.setTop (mkF m 198 #[.val (.int p0), .val (.int p1), .val (.int p2), .val (.int p3), .val (.int p4), .val (.long q5), .second, .val (.int la), .val (.int ha), .val (.int lb), .val (.int hb_), .val (.int aL), .val (.int aH), .val (.int ((p4.toUInt32 >>> ((2 : Int32) &&& 31).toUInt32).toInt32)), .val (.int bL), .val (.int bH), .val (.ref b31), .val (.ref b32), .val (.ref b33), .val (.ref b36), .unset] []))
          refine own_st (fun zw zk => XS.iconst X38.here hx rfl (hb hby at_198) zk) ?_
          refine own_st (fun zw zk => XS.istore X38.here hx rfl (hb hby at_199) rfl rfl zk) ?_
          show own_Go p e below G (T38.setTop (mkF m 201 #[.val (.int p0), .val (.int p1), .val (.int p2), .val (.int p3), .val (.int p4), .val (.long q5), .second, .val (.int la), .val (.int ha), .val (.int lb), .val (.int hb_), .val (.int aL), .val (.int aH), .val (.int ((p4.toUInt32 >>> ((2 : Int32) &&& 31).toUInt32).toInt32)), .val (.int bL), .val (.int bH), .val (.ref b31), .val (.ref b32), .val (.ref b33), .val (.ref b36), .val (.int (0 : Int32))] []))
          exact J201_39 (0 : Int32) (by unfold own_P; simp [hc138, hc167, hc172, hc184])
        · refine own_st (fun zw zk => XS.ifNo X38.here hx rfl (hb hby at_184) rfl ((if0 _ _).trans (feq hc184).1) zk) ?_
          show own_Go p e below G (T38.setTop (mkF m 187 #[.val (.int p0), .val (.int p1), .val (.int p2), .val (.int p3), .val (.int p4), .val (.long q5), .second, .val (.int la), .val (.int ha), .val (.int lb), .val (.int hb_), .val (.int aL), .val (.int aH), .val (.int ((p4.toUInt32 >>> ((2 : Int32) &&& 31).toUInt32).toInt32)), .val (.int bL), .val (.int bH), .val (.ref b31), .val (.ref b32), .val (.ref b33), .val (.ref b36), .unset] []))
          refine own_st (fun zw zk => XS.iload X38.here hx rfl (hb hby at_187) rfl zk) ?_
          refine own_st (fun zw zk => XS.iload X38.here hx rfl (hb hby at_189) rfl zk) ?_
          by_cases hc191 : ha = hb_
          · refine own_st (fun zw zk => XS.icmpNo X38.here hx rfl (hb hby at_191) rfl (teq hc191).2 zk) ?_
            refine own_st (fun zw zk => XS.iconst X38.here hx rfl (hb hby at_194) zk) ?_
            refine own_st (fun zw zk => XS.goto X38.here hx rfl (pc0 := 195) (pc' := 199) rfl (hb hby at_195) (by decide) (by decide) zk) ?_
            show own_Go p e below G (T38.setTop (mkF m 199 #[.val (.int p0), .val (.int p1), .val (.int p2), .val (.int p3), .val (.int p4), .val (.long q5), .second, .val (.int la), .val (.int ha), .val (.int lb), .val (.int hb_), .val (.int aL), .val (.int aH), .val (.int ((p4.toUInt32 >>> ((2 : Int32) &&& 31).toUInt32).toInt32)), .val (.int bL), .val (.int bH), .val (.ref b31), .val (.ref b32), .val (.ref b33), .val (.ref b36), .unset] [(.int (1 : Int32))]))
            refine own_st (fun zw zk => XS.istore X38.here hx rfl (hb hby at_199) rfl rfl zk) ?_
            show own_Go p e below G (T38.setTop (mkF m 201 #[.val (.int p0), .val (.int p1), .val (.int p2), .val (.int p3), .val (.int p4), .val (.long q5), .second, .val (.int la), .val (.int ha), .val (.int lb), .val (.int hb_), .val (.int aL), .val (.int aH), .val (.int ((p4.toUInt32 >>> ((2 : Int32) &&& 31).toUInt32).toInt32)), .val (.int bL), .val (.int bH), .val (.ref b31), .val (.ref b32), .val (.ref b33), .val (.ref b36), .val (.int (1 : Int32))] []))
            exact J201_39 (1 : Int32) (by unfold own_P; simp [hc138, hc167, hc172, hc184, hc191])
          · refine own_st (fun zw zk => XS.icmpYes X38.here hx rfl (pc0 := 191) (pc' := 198) rfl (hb hby at_191) rfl (feq hc191).2 (by decide) (by decide) zk) ?_
            refine own_st (fun zw zk => XS.iconst X38.here hx rfl (hb hby at_198) zk) ?_
            refine own_st (fun zw zk => XS.istore X38.here hx rfl (hb hby at_199) rfl rfl zk) ?_
            show own_Go p e below G (T38.setTop (mkF m 201 #[.val (.int p0), .val (.int p1), .val (.int p2), .val (.int p3), .val (.int p4), .val (.long q5), .second, .val (.int la), .val (.int ha), .val (.int lb), .val (.int hb_), .val (.int aL), .val (.int aH), .val (.int ((p4.toUInt32 >>> ((2 : Int32) &&& 31).toUInt32).toInt32)), .val (.int bL), .val (.int bH), .val (.ref b31), .val (.ref b32), .val (.ref b33), .val (.ref b36), .val (.int (0 : Int32))] []))
            exact J201_39 (0 : Int32) (by unfold own_P; simp [hc138, hc167, hc172, hc184, hc191])
      · refine own_st (fun zw zk => XS.ifNo X38.here hx rfl (hb hby at_172) rfl ((if0 _ _).trans (feq hc172).1) zk) ?_
        refine own_st (fun zw zk => XS.iload X38.here hx rfl (hb hby at_175) rfl zk) ?_
        refine own_st (fun zw zk => XS.iload X38.here hx rfl (hb hby at_177) rfl zk) ?_
        show own_Go p e below G (T38.setTop (mkF m 179 #[.val (.int p0), .val (.int p1), .val (.int p2), .val (.int p3), .val (.int p4), .val (.long q5), .second, .val (.int la), .val (.int ha), .val (.int lb), .val (.int hb_), .val (.int aL), .val (.int aH), .val (.int ((p4.toUInt32 >>> ((2 : Int32) &&& 31).toUInt32).toInt32)), .val (.int bL), .val (.int bH), .val (.ref b31), .val (.ref b32), .val (.ref b33), .val (.ref b36), .unset] [(.int lb), (.int ha)]))
        by_cases hc179 : ha = lb
        · refine own_st (fun zw zk => XS.icmpYes X38.here hx rfl (pc0 := 179) (pc' := 194) rfl (hb hby at_179) rfl (teq hc179).1 (by decide) (by decide) zk) ?_
          refine own_st (fun zw zk => XS.iconst X38.here hx rfl (hb hby at_194) zk) ?_
          refine own_st (fun zw zk => XS.goto X38.here hx rfl (pc0 := 195) (pc' := 199) rfl (hb hby at_195) (by decide) (by decide) zk) ?_
          show own_Go p e below G (T38.setTop (mkF m 199 #[.val (.int p0), .val (.int p1), .val (.int p2), .val (.int p3), .val (.int p4), .val (.long q5), .second, .val (.int la), .val (.int ha), .val (.int lb), .val (.int hb_), .val (.int aL), .val (.int aH), .val (.int ((p4.toUInt32 >>> ((2 : Int32) &&& 31).toUInt32).toInt32)), .val (.int bL), .val (.int bH), .val (.ref b31), .val (.ref b32), .val (.ref b33), .val (.ref b36), .unset] [(.int (1 : Int32))]))
          refine own_st (fun zw zk => XS.istore X38.here hx rfl (hb hby at_199) rfl rfl zk) ?_
          show own_Go p e below G (T38.setTop (mkF m 201 #[.val (.int p0), .val (.int p1), .val (.int p2), .val (.int p3), .val (.int p4), .val (.long q5), .second, .val (.int la), .val (.int ha), .val (.int lb), .val (.int hb_), .val (.int aL), .val (.int aH), .val (.int ((p4.toUInt32 >>> ((2 : Int32) &&& 31).toUInt32).toInt32)), .val (.int bL), .val (.int bH), .val (.ref b31), .val (.ref b32), .val (.ref b33), .val (.ref b36), .val (.int (1 : Int32))] []))
          exact J201_39 (1 : Int32) (by unfold own_P; simp [hc138, hc167, hc172, hc179])
        · refine own_st (fun zw zk => XS.icmpNo X38.here hx rfl (hb hby at_179) rfl (feq hc179).1 zk) ?_
          refine own_st (fun zw zk => XS.iload X38.here hx rfl (hb hby at_182) rfl zk) ?_
          by_cases hc184 : bH = (0 : Int32)
          · refine own_st (fun zw zk => XS.ifYes X38.here hx rfl (pc0 := 184) (pc' := 198) rfl (hb hby at_184) rfl ((if0 _ _).trans (teq hc184).1) (by decide) (by decide) zk) ?_
            refine own_st (fun zw zk => XS.iconst X38.here hx rfl (hb hby at_198) zk) ?_
            refine own_st (fun zw zk => XS.istore X38.here hx rfl (hb hby at_199) rfl rfl zk) ?_
            show own_Go p e below G (T38.setTop (mkF m 201 #[.val (.int p0), .val (.int p1), .val (.int p2), .val (.int p3), .val (.int p4), .val (.long q5), .second, .val (.int la), .val (.int ha), .val (.int lb), .val (.int hb_), .val (.int aL), .val (.int aH), .val (.int ((p4.toUInt32 >>> ((2 : Int32) &&& 31).toUInt32).toInt32)), .val (.int bL), .val (.int bH), .val (.ref b31), .val (.ref b32), .val (.ref b33), .val (.ref b36), .val (.int (0 : Int32))] []))
            exact J201_39 (0 : Int32) (by unfold own_P; simp [hc138, hc167, hc172, hc179, hc184])
          · refine own_st (fun zw zk => XS.ifNo X38.here hx rfl (hb hby at_184) rfl ((if0 _ _).trans (feq hc184).1) zk) ?_
            refine own_st (fun zw zk => XS.iload X38.here hx rfl (hb hby at_187) rfl zk) ?_
            refine own_st (fun zw zk => XS.iload X38.here hx rfl (hb hby at_189) rfl zk) ?_
            by_cases hc191 : ha = hb_
            · refine own_st (fun zw zk => XS.icmpNo X38.here hx rfl (hb hby at_191) rfl (teq hc191).2 zk) ?_
              refine own_st (fun zw zk => XS.iconst X38.here hx rfl (hb hby at_194) zk) ?_
              refine own_st (fun zw zk => XS.goto X38.here hx rfl (pc0 := 195) (pc' := 199) rfl (hb hby at_195) (by decide) (by decide) zk) ?_
              show own_Go p e below G (T38.setTop (mkF m 199 #[.val (.int p0), .val (.int p1), .val (.int p2), .val (.int p3), .val (.int p4), .val (.long q5), .second, .val (.int la), .val (.int ha), .val (.int lb), .val (.int hb_), .val (.int aL), .val (.int aH), .val (.int ((p4.toUInt32 >>> ((2 : Int32) &&& 31).toUInt32).toInt32)), .val (.int bL), .val (.int bH), .val (.ref b31), .val (.ref b32), .val (.ref b33), .val (.ref b36), .unset] [(.int (1 : Int32))]))
              refine own_st (fun zw zk => XS.istore X38.here hx rfl (hb hby at_199) rfl rfl zk) ?_
              show own_Go p e below G (T38.setTop (mkF m 201 #[.val (.int p0), .val (.int p1), .val (.int p2), .val (.int p3), .val (.int p4), .val (.long q5), .second, .val (.int la), .val (.int ha), .val (.int lb), .val (.int hb_), .val (.int aL), .val (.int aH), .val (.int ((p4.toUInt32 >>> ((2 : Int32) &&& 31).toUInt32).toInt32)), .val (.int bL), .val (.int bH), .val (.ref b31), .val (.ref b32), .val (.ref b33), .val (.ref b36), .val (.int (1 : Int32))] []))
              exact J201_39 (1 : Int32) (by unfold own_P; simp [hc138, hc167, hc172, hc179, hc184, hc191])
            · refine own_st (fun zw zk => XS.icmpYes X38.here hx rfl (pc0 := 191) (pc' := 198) rfl (hb hby at_191) rfl (feq hc191).2 (by decide) (by decide) zk) ?_
              refine own_st (fun zw zk => XS.iconst X38.here hx rfl (hb hby at_198) zk) ?_
              refine own_st (fun zw zk => XS.istore X38.here hx rfl (hb hby at_199) rfl rfl zk) ?_
              show own_Go p e below G (T38.setTop (mkF m 201 #[.val (.int p0), .val (.int p1), .val (.int p2), .val (.int p3), .val (.int p4), .val (.long q5), .second, .val (.int la), .val (.int ha), .val (.int lb), .val (.int hb_), .val (.int aL), .val (.int aH), .val (.int ((p4.toUInt32 >>> ((2 : Int32) &&& 31).toUInt32).toInt32)), .val (.int bL), .val (.int bH), .val (.ref b31), .val (.ref b32), .val (.ref b33), .val (.ref b36), .val (.int (0 : Int32))] []))
              exact J201_39 (0 : Int32) (by unfold own_P; simp [hc138, hc167, hc172, hc179, hc184, hc191])
  · refine own_st (fun zw zk => XS.ifNo X38.here hx rfl (hb hby at_138) rfl ((if0 _ _).trans (feq hc138).1) zk) ?_
    refine own_st (fun zw zk => XS.iload X38.here hx rfl (hb hby at_141) rfl zk) ?_
    by_cases hc143 : bL = (0 : Int32)
    · refine own_st (fun zw zk => XS.ifYes X38.here hx rfl (pc0 := 143) (pc' := 153) rfl (hb hby at_143) rfl ((if0 _ _).trans (teq hc143).1) (by decide) (by decide) zk) ?_
      refine own_st (fun zw zk => XS.iload X38.here hx rfl (hb hby at_153) rfl zk) ?_
      by_cases hc155 : bH = (0 : Int32)
      · refine own_st (fun zw zk => XS.ifYes X38.here hx rfl (pc0 := 155) (pc' := 165) rfl (hb hby at_155) rfl ((if0 _ _).trans (teq hc155).1) (by decide) (by decide) zk) ?_
        refine own_st (fun zw zk => XS.iload X38.here hx rfl (hb hby at_165) rfl zk) ?_
        by_cases hc167 : aH = (0 : Int32)
        · refine own_st (fun zw zk => XS.ifYes X38.here hx rfl (pc0 := 167) (pc' := 198) rfl (hb hby at_167) rfl ((if0 _ _).trans (teq hc167).1) (by decide) (by decide) zk) ?_
          show own_Go p e below G (T38.setTop (mkF m 198 #[.val (.int p0), .val (.int p1), .val (.int p2), .val (.int p3), .val (.int p4), .val (.long q5), .second, .val (.int la), .val (.int ha), .val (.int lb), .val (.int hb_), .val (.int aL), .val (.int aH), .val (.int ((p4.toUInt32 >>> ((2 : Int32) &&& 31).toUInt32).toInt32)), .val (.int bL), .val (.int bH), .val (.ref b31), .val (.ref b32), .val (.ref b33), .val (.ref b36), .unset] []))
          refine own_st (fun zw zk => XS.iconst X38.here hx rfl (hb hby at_198) zk) ?_
          refine own_st (fun zw zk => XS.istore X38.here hx rfl (hb hby at_199) rfl rfl zk) ?_
          show own_Go p e below G (T38.setTop (mkF m 201 #[.val (.int p0), .val (.int p1), .val (.int p2), .val (.int p3), .val (.int p4), .val (.long q5), .second, .val (.int la), .val (.int ha), .val (.int lb), .val (.int hb_), .val (.int aL), .val (.int aH), .val (.int ((p4.toUInt32 >>> ((2 : Int32) &&& 31).toUInt32).toInt32)), .val (.int bL), .val (.int bH), .val (.ref b31), .val (.ref b32), .val (.ref b33), .val (.ref b36), .val (.int (0 : Int32))] []))
          exact J201_39 (0 : Int32) (by unfold own_P; simp [hc138, hc143, hc155, hc167])
        · refine own_st (fun zw zk => XS.ifNo X38.here hx rfl (hb hby at_167) rfl ((if0 _ _).trans (feq hc167).1) zk) ?_
          show own_Go p e below G (T38.setTop (mkF m 170 #[.val (.int p0), .val (.int p1), .val (.int p2), .val (.int p3), .val (.int p4), .val (.long q5), .second, .val (.int la), .val (.int ha), .val (.int lb), .val (.int hb_), .val (.int aL), .val (.int aH), .val (.int ((p4.toUInt32 >>> ((2 : Int32) &&& 31).toUInt32).toInt32)), .val (.int bL), .val (.int bH), .val (.ref b31), .val (.ref b32), .val (.ref b33), .val (.ref b36), .unset] []))
          refine own_st (fun zw zk => XS.iload X38.here hx rfl (hb hby at_170) rfl zk) ?_
          refine own_st (fun zw zk => XS.ifYes X38.here hx rfl (pc0 := 172) (pc' := 182) rfl (hb hby at_172) rfl ((if0 _ _).trans (teq hc143).1) (by decide) (by decide) zk) ?_
          refine own_st (fun zw zk => XS.iload X38.here hx rfl (hb hby at_182) rfl zk) ?_
          refine own_st (fun zw zk => XS.ifYes X38.here hx rfl (pc0 := 184) (pc' := 198) rfl (hb hby at_184) rfl ((if0 _ _).trans (teq hc155).1) (by decide) (by decide) zk) ?_
          refine own_st (fun zw zk => XS.iconst X38.here hx rfl (hb hby at_198) zk) ?_
          refine own_st (fun zw zk => XS.istore X38.here hx rfl (hb hby at_199) rfl rfl zk) ?_
          show own_Go p e below G (T38.setTop (mkF m 201 #[.val (.int p0), .val (.int p1), .val (.int p2), .val (.int p3), .val (.int p4), .val (.long q5), .second, .val (.int la), .val (.int ha), .val (.int lb), .val (.int hb_), .val (.int aL), .val (.int aH), .val (.int ((p4.toUInt32 >>> ((2 : Int32) &&& 31).toUInt32).toInt32)), .val (.int bL), .val (.int bH), .val (.ref b31), .val (.ref b32), .val (.ref b33), .val (.ref b36), .val (.int (0 : Int32))] []))
          exact J201_39 (0 : Int32) (by unfold own_P; simp [hc138, hc143, hc155, hc167])
      · refine own_st (fun zw zk => XS.ifNo X38.here hx rfl (hb hby at_155) rfl ((if0 _ _).trans (feq hc155).1) zk) ?_
        refine own_st (fun zw zk => XS.iload X38.here hx rfl (hb hby at_158) rfl zk) ?_
        refine own_st (fun zw zk => XS.iload X38.here hx rfl (hb hby at_160) rfl zk) ?_
        show own_Go p e below G (T38.setTop (mkF m 162 #[.val (.int p0), .val (.int p1), .val (.int p2), .val (.int p3), .val (.int p4), .val (.long q5), .second, .val (.int la), .val (.int ha), .val (.int lb), .val (.int hb_), .val (.int aL), .val (.int aH), .val (.int ((p4.toUInt32 >>> ((2 : Int32) &&& 31).toUInt32).toInt32)), .val (.int bL), .val (.int bH), .val (.ref b31), .val (.ref b32), .val (.ref b33), .val (.ref b36), .unset] [(.int hb_), (.int la)]))
        by_cases hc162 : la = hb_
        · refine own_st (fun zw zk => XS.icmpYes X38.here hx rfl (pc0 := 162) (pc' := 194) rfl (hb hby at_162) rfl (teq hc162).1 (by decide) (by decide) zk) ?_
          refine own_st (fun zw zk => XS.iconst X38.here hx rfl (hb hby at_194) zk) ?_
          refine own_st (fun zw zk => XS.goto X38.here hx rfl (pc0 := 195) (pc' := 199) rfl (hb hby at_195) (by decide) (by decide) zk) ?_
          show own_Go p e below G (T38.setTop (mkF m 199 #[.val (.int p0), .val (.int p1), .val (.int p2), .val (.int p3), .val (.int p4), .val (.long q5), .second, .val (.int la), .val (.int ha), .val (.int lb), .val (.int hb_), .val (.int aL), .val (.int aH), .val (.int ((p4.toUInt32 >>> ((2 : Int32) &&& 31).toUInt32).toInt32)), .val (.int bL), .val (.int bH), .val (.ref b31), .val (.ref b32), .val (.ref b33), .val (.ref b36), .unset] [(.int (1 : Int32))]))
          refine own_st (fun zw zk => XS.istore X38.here hx rfl (hb hby at_199) rfl rfl zk) ?_
          show own_Go p e below G (T38.setTop (mkF m 201 #[.val (.int p0), .val (.int p1), .val (.int p2), .val (.int p3), .val (.int p4), .val (.long q5), .second, .val (.int la), .val (.int ha), .val (.int lb), .val (.int hb_), .val (.int aL), .val (.int aH), .val (.int ((p4.toUInt32 >>> ((2 : Int32) &&& 31).toUInt32).toInt32)), .val (.int bL), .val (.int bH), .val (.ref b31), .val (.ref b32), .val (.ref b33), .val (.ref b36), .val (.int (1 : Int32))] []))
          exact J201_39 (1 : Int32) (by unfold own_P; simp [hc138, hc143, hc155, hc162])
        · refine own_st (fun zw zk => XS.icmpNo X38.here hx rfl (hb hby at_162) rfl (feq hc162).1 zk) ?_
          refine own_st (fun zw zk => XS.iload X38.here hx rfl (hb hby at_165) rfl zk) ?_
          by_cases hc167 : aH = (0 : Int32)
          · refine own_st (fun zw zk => XS.ifYes X38.here hx rfl (pc0 := 167) (pc' := 198) rfl (hb hby at_167) rfl ((if0 _ _).trans (teq hc167).1) (by decide) (by decide) zk) ?_
            refine own_st (fun zw zk => XS.iconst X38.here hx rfl (hb hby at_198) zk) ?_
            refine own_st (fun zw zk => XS.istore X38.here hx rfl (hb hby at_199) rfl rfl zk) ?_
            show own_Go p e below G (T38.setTop (mkF m 201 #[.val (.int p0), .val (.int p1), .val (.int p2), .val (.int p3), .val (.int p4), .val (.long q5), .second, .val (.int la), .val (.int ha), .val (.int lb), .val (.int hb_), .val (.int aL), .val (.int aH), .val (.int ((p4.toUInt32 >>> ((2 : Int32) &&& 31).toUInt32).toInt32)), .val (.int bL), .val (.int bH), .val (.ref b31), .val (.ref b32), .val (.ref b33), .val (.ref b36), .val (.int (0 : Int32))] []))
            exact J201_39 (0 : Int32) (by unfold own_P; simp [hc138, hc143, hc155, hc162, hc167])
          · refine own_st (fun zw zk => XS.ifNo X38.here hx rfl (hb hby at_167) rfl ((if0 _ _).trans (feq hc167).1) zk) ?_
            refine own_st (fun zw zk => XS.iload X38.here hx rfl (hb hby at_170) rfl zk) ?_
            refine own_st (fun zw zk => XS.ifYes X38.here hx rfl (pc0 := 172) (pc' := 182) rfl (hb hby at_172) rfl ((if0 _ _).trans (teq hc143).1) (by decide) (by decide) zk) ?_
            refine own_st (fun zw zk => XS.iload X38.here hx rfl (hb hby at_182) rfl zk) ?_
            refine own_st (fun zw zk => XS.ifNo X38.here hx rfl (hb hby at_184) rfl ((if0 _ _).trans (feq hc155).1) zk) ?_
            refine own_st (fun zw zk => XS.iload X38.here hx rfl (hb hby at_187) rfl zk) ?_
            show own_Go p e below G (T38.setTop (mkF m 189 #[.val (.int p0), .val (.int p1), .val (.int p2), .val (.int p3), .val (.int p4), .val (.long q5), .second, .val (.int la), .val (.int ha), .val (.int lb), .val (.int hb_), .val (.int aL), .val (.int aH), .val (.int ((p4.toUInt32 >>> ((2 : Int32) &&& 31).toUInt32).toInt32)), .val (.int bL), .val (.int bH), .val (.ref b31), .val (.ref b32), .val (.ref b33), .val (.ref b36), .unset] [(.int ha)]))
            refine own_st (fun zw zk => XS.iload X38.here hx rfl (hb hby at_189) rfl zk) ?_
            by_cases hc191 : ha = hb_
            · refine own_st (fun zw zk => XS.icmpNo X38.here hx rfl (hb hby at_191) rfl (teq hc191).2 zk) ?_
              refine own_st (fun zw zk => XS.iconst X38.here hx rfl (hb hby at_194) zk) ?_
              refine own_st (fun zw zk => XS.goto X38.here hx rfl (pc0 := 195) (pc' := 199) rfl (hb hby at_195) (by decide) (by decide) zk) ?_
              show own_Go p e below G (T38.setTop (mkF m 199 #[.val (.int p0), .val (.int p1), .val (.int p2), .val (.int p3), .val (.int p4), .val (.long q5), .second, .val (.int la), .val (.int ha), .val (.int lb), .val (.int hb_), .val (.int aL), .val (.int aH), .val (.int ((p4.toUInt32 >>> ((2 : Int32) &&& 31).toUInt32).toInt32)), .val (.int bL), .val (.int bH), .val (.ref b31), .val (.ref b32), .val (.ref b33), .val (.ref b36), .unset] [(.int (1 : Int32))]))
              refine own_st (fun zw zk => XS.istore X38.here hx rfl (hb hby at_199) rfl rfl zk) ?_
              show own_Go p e below G (T38.setTop (mkF m 201 #[.val (.int p0), .val (.int p1), .val (.int p2), .val (.int p3), .val (.int p4), .val (.long q5), .second, .val (.int la), .val (.int ha), .val (.int lb), .val (.int hb_), .val (.int aL), .val (.int aH), .val (.int ((p4.toUInt32 >>> ((2 : Int32) &&& 31).toUInt32).toInt32)), .val (.int bL), .val (.int bH), .val (.ref b31), .val (.ref b32), .val (.ref b33), .val (.ref b36), .val (.int (1 : Int32))] []))
              exact J201_39 (1 : Int32) (by unfold own_P; simp [hc138, hc143, hc155, hc162, hc167, hc191])
            · refine own_st (fun zw zk => XS.icmpYes X38.here hx rfl (pc0 := 191) (pc' := 198) rfl (hb hby at_191) rfl (feq hc191).2 (by decide) (by decide) zk) ?_
              refine own_st (fun zw zk => XS.iconst X38.here hx rfl (hb hby at_198) zk) ?_
              refine own_st (fun zw zk => XS.istore X38.here hx rfl (hb hby at_199) rfl rfl zk) ?_
              show own_Go p e below G (T38.setTop (mkF m 201 #[.val (.int p0), .val (.int p1), .val (.int p2), .val (.int p3), .val (.int p4), .val (.long q5), .second, .val (.int la), .val (.int ha), .val (.int lb), .val (.int hb_), .val (.int aL), .val (.int aH), .val (.int ((p4.toUInt32 >>> ((2 : Int32) &&& 31).toUInt32).toInt32)), .val (.int bL), .val (.int bH), .val (.ref b31), .val (.ref b32), .val (.ref b33), .val (.ref b36), .val (.int (0 : Int32))] []))
              exact J201_39 (0 : Int32) (by unfold own_P; simp [hc138, hc143, hc155, hc162, hc167, hc191])
    · refine own_st (fun zw zk => XS.ifNo X38.here hx rfl (hb hby at_143) rfl ((if0 _ _).trans (feq hc143).1) zk) ?_
      refine own_st (fun zw zk => XS.iload X38.here hx rfl (hb hby at_146) rfl zk) ?_
      refine own_st (fun zw zk => XS.iload X38.here hx rfl (hb hby at_148) rfl zk) ?_
      by_cases hc150 : la = lb
      · refine own_st (fun zw zk => XS.icmpYes X38.here hx rfl (pc0 := 150) (pc' := 194) rfl (hb hby at_150) rfl (teq hc150).1 (by decide) (by decide) zk) ?_
        refine own_st (fun zw zk => XS.iconst X38.here hx rfl (hb hby at_194) zk) ?_
        show own_Go p e below G (T38.setTop (mkF m 195 #[.val (.int p0), .val (.int p1), .val (.int p2), .val (.int p3), .val (.int p4), .val (.long q5), .second, .val (.int la), .val (.int ha), .val (.int lb), .val (.int hb_), .val (.int aL), .val (.int aH), .val (.int ((p4.toUInt32 >>> ((2 : Int32) &&& 31).toUInt32).toInt32)), .val (.int bL), .val (.int bH), .val (.ref b31), .val (.ref b32), .val (.ref b33), .val (.ref b36), .unset] [(.int (1 : Int32))]))
        refine own_st (fun zw zk => XS.goto X38.here hx rfl (pc0 := 195) (pc' := 199) rfl (hb hby at_195) (by decide) (by decide) zk) ?_
        show own_Go p e below G (T38.setTop (mkF m 199 #[.val (.int p0), .val (.int p1), .val (.int p2), .val (.int p3), .val (.int p4), .val (.long q5), .second, .val (.int la), .val (.int ha), .val (.int lb), .val (.int hb_), .val (.int aL), .val (.int aH), .val (.int ((p4.toUInt32 >>> ((2 : Int32) &&& 31).toUInt32).toInt32)), .val (.int bL), .val (.int bH), .val (.ref b31), .val (.ref b32), .val (.ref b33), .val (.ref b36), .unset] [(.int (1 : Int32))]))
        refine own_st (fun zw zk => XS.istore X38.here hx rfl (hb hby at_199) rfl rfl zk) ?_
        show own_Go p e below G (T38.setTop (mkF m 201 #[.val (.int p0), .val (.int p1), .val (.int p2), .val (.int p3), .val (.int p4), .val (.long q5), .second, .val (.int la), .val (.int ha), .val (.int lb), .val (.int hb_), .val (.int aL), .val (.int aH), .val (.int ((p4.toUInt32 >>> ((2 : Int32) &&& 31).toUInt32).toInt32)), .val (.int bL), .val (.int bH), .val (.ref b31), .val (.ref b32), .val (.ref b33), .val (.ref b36), .val (.int (1 : Int32))] []))
        exact J201_39 (1 : Int32) (by unfold own_P; simp [hc138, hc143, hc150])
      · refine own_st (fun zw zk => XS.icmpNo X38.here hx rfl (hb hby at_150) rfl (feq hc150).1 zk) ?_
        refine own_st (fun zw zk => XS.iload X38.here hx rfl (hb hby at_153) rfl zk) ?_
        show own_Go p e below G (T38.setTop (mkF m 155 #[.val (.int p0), .val (.int p1), .val (.int p2), .val (.int p3), .val (.int p4), .val (.long q5), .second, .val (.int la), .val (.int ha), .val (.int lb), .val (.int hb_), .val (.int aL), .val (.int aH), .val (.int ((p4.toUInt32 >>> ((2 : Int32) &&& 31).toUInt32).toInt32)), .val (.int bL), .val (.int bH), .val (.ref b31), .val (.ref b32), .val (.ref b33), .val (.ref b36), .unset] [(.int bH)]))
        by_cases hc155 : bH = (0 : Int32)
        · refine own_st (fun zw zk => XS.ifYes X38.here hx rfl (pc0 := 155) (pc' := 165) rfl (hb hby at_155) rfl ((if0 _ _).trans (teq hc155).1) (by decide) (by decide) zk) ?_
          refine own_st (fun zw zk => XS.iload X38.here hx rfl (hb hby at_165) rfl zk) ?_
          by_cases hc167 : aH = (0 : Int32)
          · refine own_st (fun zw zk => XS.ifYes X38.here hx rfl (pc0 := 167) (pc' := 198) rfl (hb hby at_167) rfl ((if0 _ _).trans (teq hc167).1) (by decide) (by decide) zk) ?_
            refine own_st (fun zw zk => XS.iconst X38.here hx rfl (hb hby at_198) zk) ?_
            refine own_st (fun zw zk => XS.istore X38.here hx rfl (hb hby at_199) rfl rfl zk) ?_
            show own_Go p e below G (T38.setTop (mkF m 201 #[.val (.int p0), .val (.int p1), .val (.int p2), .val (.int p3), .val (.int p4), .val (.long q5), .second, .val (.int la), .val (.int ha), .val (.int lb), .val (.int hb_), .val (.int aL), .val (.int aH), .val (.int ((p4.toUInt32 >>> ((2 : Int32) &&& 31).toUInt32).toInt32)), .val (.int bL), .val (.int bH), .val (.ref b31), .val (.ref b32), .val (.ref b33), .val (.ref b36), .val (.int (0 : Int32))] []))
            exact J201_39 (0 : Int32) (by unfold own_P; simp [hc138, hc143, hc150, hc155, hc167])
          · refine own_st (fun zw zk => XS.ifNo X38.here hx rfl (hb hby at_167) rfl ((if0 _ _).trans (feq hc167).1) zk) ?_
            refine own_st (fun zw zk => XS.iload X38.here hx rfl (hb hby at_170) rfl zk) ?_
            refine own_st (fun zw zk => XS.ifNo X38.here hx rfl (hb hby at_172) rfl ((if0 _ _).trans (feq hc143).1) zk) ?_
            refine own_st (fun zw zk => XS.iload X38.here hx rfl (hb hby at_175) rfl zk) ?_
            refine own_st (fun zw zk => XS.iload X38.here hx rfl (hb hby at_177) rfl zk) ?_
            by_cases hc179 : ha = lb
            · refine own_st (fun zw zk => XS.icmpYes X38.here hx rfl (pc0 := 179) (pc' := 194) rfl (hb hby at_179) rfl (teq hc179).1 (by decide) (by decide) zk) ?_
              show own_Go p e below G (T38.setTop (mkF m 194 #[.val (.int p0), .val (.int p1), .val (.int p2), .val (.int p3), .val (.int p4), .val (.long q5), .second, .val (.int la), .val (.int ha), .val (.int lb), .val (.int hb_), .val (.int aL), .val (.int aH), .val (.int ((p4.toUInt32 >>> ((2 : Int32) &&& 31).toUInt32).toInt32)), .val (.int bL), .val (.int bH), .val (.ref b31), .val (.ref b32), .val (.ref b33), .val (.ref b36), .unset] []))
              refine own_st (fun zw zk => XS.iconst X38.here hx rfl (hb hby at_194) zk) ?_
              refine own_st (fun zw zk => XS.goto X38.here hx rfl (pc0 := 195) (pc' := 199) rfl (hb hby at_195) (by decide) (by decide) zk) ?_
              show own_Go p e below G (T38.setTop (mkF m 199 #[.val (.int p0), .val (.int p1), .val (.int p2), .val (.int p3), .val (.int p4), .val (.long q5), .second, .val (.int la), .val (.int ha), .val (.int lb), .val (.int hb_), .val (.int aL), .val (.int aH), .val (.int ((p4.toUInt32 >>> ((2 : Int32) &&& 31).toUInt32).toInt32)), .val (.int bL), .val (.int bH), .val (.ref b31), .val (.ref b32), .val (.ref b33), .val (.ref b36), .unset] [(.int (1 : Int32))]))
              refine own_st (fun zw zk => XS.istore X38.here hx rfl (hb hby at_199) rfl rfl zk) ?_
              show own_Go p e below G (T38.setTop (mkF m 201 #[.val (.int p0), .val (.int p1), .val (.int p2), .val (.int p3), .val (.int p4), .val (.long q5), .second, .val (.int la), .val (.int ha), .val (.int lb), .val (.int hb_), .val (.int aL), .val (.int aH), .val (.int ((p4.toUInt32 >>> ((2 : Int32) &&& 31).toUInt32).toInt32)), .val (.int bL), .val (.int bH), .val (.ref b31), .val (.ref b32), .val (.ref b33), .val (.ref b36), .val (.int (1 : Int32))] []))
              exact J201_39 (1 : Int32) (by unfold own_P; simp [hc138, hc143, hc150, hc155, hc167, hc179])
            · refine own_st (fun zw zk => XS.icmpNo X38.here hx rfl (hb hby at_179) rfl (feq hc179).1 zk) ?_
              show own_Go p e below G (T38.setTop (mkF m 182 #[.val (.int p0), .val (.int p1), .val (.int p2), .val (.int p3), .val (.int p4), .val (.long q5), .second, .val (.int la), .val (.int ha), .val (.int lb), .val (.int hb_), .val (.int aL), .val (.int aH), .val (.int ((p4.toUInt32 >>> ((2 : Int32) &&& 31).toUInt32).toInt32)), .val (.int bL), .val (.int bH), .val (.ref b31), .val (.ref b32), .val (.ref b33), .val (.ref b36), .unset] []))
              refine own_st (fun zw zk => XS.iload X38.here hx rfl (hb hby at_182) rfl zk) ?_
              refine own_st (fun zw zk => XS.ifYes X38.here hx rfl (pc0 := 184) (pc' := 198) rfl (hb hby at_184) rfl ((if0 _ _).trans (teq hc155).1) (by decide) (by decide) zk) ?_
              refine own_st (fun zw zk => XS.iconst X38.here hx rfl (hb hby at_198) zk) ?_
              refine own_st (fun zw zk => XS.istore X38.here hx rfl (hb hby at_199) rfl rfl zk) ?_
              show own_Go p e below G (T38.setTop (mkF m 201 #[.val (.int p0), .val (.int p1), .val (.int p2), .val (.int p3), .val (.int p4), .val (.long q5), .second, .val (.int la), .val (.int ha), .val (.int lb), .val (.int hb_), .val (.int aL), .val (.int aH), .val (.int ((p4.toUInt32 >>> ((2 : Int32) &&& 31).toUInt32).toInt32)), .val (.int bL), .val (.int bH), .val (.ref b31), .val (.ref b32), .val (.ref b33), .val (.ref b36), .val (.int (0 : Int32))] []))
              exact J201_39 (0 : Int32) (by unfold own_P; simp [hc138, hc143, hc150, hc155, hc167, hc179])
        · refine own_st (fun zw zk => XS.ifNo X38.here hx rfl (hb hby at_155) rfl ((if0 _ _).trans (feq hc155).1) zk) ?_
          refine own_st (fun zw zk => XS.iload X38.here hx rfl (hb hby at_158) rfl zk) ?_
          refine own_st (fun zw zk => XS.iload X38.here hx rfl (hb hby at_160) rfl zk) ?_
          by_cases hc162 : la = hb_
          · refine own_st (fun zw zk => XS.icmpYes X38.here hx rfl (pc0 := 162) (pc' := 194) rfl (hb hby at_162) rfl (teq hc162).1 (by decide) (by decide) zk) ?_
            refine own_st (fun zw zk => XS.iconst X38.here hx rfl (hb hby at_194) zk) ?_
            refine own_st (fun zw zk => XS.goto X38.here hx rfl (pc0 := 195) (pc' := 199) rfl (hb hby at_195) (by decide) (by decide) zk) ?_
            show own_Go p e below G (T38.setTop (mkF m 199 #[.val (.int p0), .val (.int p1), .val (.int p2), .val (.int p3), .val (.int p4), .val (.long q5), .second, .val (.int la), .val (.int ha), .val (.int lb), .val (.int hb_), .val (.int aL), .val (.int aH), .val (.int ((p4.toUInt32 >>> ((2 : Int32) &&& 31).toUInt32).toInt32)), .val (.int bL), .val (.int bH), .val (.ref b31), .val (.ref b32), .val (.ref b33), .val (.ref b36), .unset] [(.int (1 : Int32))]))
            refine own_st (fun zw zk => XS.istore X38.here hx rfl (hb hby at_199) rfl rfl zk) ?_
            show own_Go p e below G (T38.setTop (mkF m 201 #[.val (.int p0), .val (.int p1), .val (.int p2), .val (.int p3), .val (.int p4), .val (.long q5), .second, .val (.int la), .val (.int ha), .val (.int lb), .val (.int hb_), .val (.int aL), .val (.int aH), .val (.int ((p4.toUInt32 >>> ((2 : Int32) &&& 31).toUInt32).toInt32)), .val (.int bL), .val (.int bH), .val (.ref b31), .val (.ref b32), .val (.ref b33), .val (.ref b36), .val (.int (1 : Int32))] []))
            exact J201_39 (1 : Int32) (by unfold own_P; simp [hc138, hc143, hc150, hc155, hc162])
          · refine own_st (fun zw zk => XS.icmpNo X38.here hx rfl (hb hby at_162) rfl (feq hc162).1 zk) ?_
            refine own_st (fun zw zk => XS.iload X38.here hx rfl (hb hby at_165) rfl zk) ?_
            by_cases hc167 : aH = (0 : Int32)
            · refine own_st (fun zw zk => XS.ifYes X38.here hx rfl (pc0 := 167) (pc' := 198) rfl (hb hby at_167) rfl ((if0 _ _).trans (teq hc167).1) (by decide) (by decide) zk) ?_
              refine own_st (fun zw zk => XS.iconst X38.here hx rfl (hb hby at_198) zk) ?_
              refine own_st (fun zw zk => XS.istore X38.here hx rfl (hb hby at_199) rfl rfl zk) ?_
              show own_Go p e below G (T38.setTop (mkF m 201 #[.val (.int p0), .val (.int p1), .val (.int p2), .val (.int p3), .val (.int p4), .val (.long q5), .second, .val (.int la), .val (.int ha), .val (.int lb), .val (.int hb_), .val (.int aL), .val (.int aH), .val (.int ((p4.toUInt32 >>> ((2 : Int32) &&& 31).toUInt32).toInt32)), .val (.int bL), .val (.int bH), .val (.ref b31), .val (.ref b32), .val (.ref b33), .val (.ref b36), .val (.int (0 : Int32))] []))
              exact J201_39 (0 : Int32) (by unfold own_P; simp [hc138, hc143, hc150, hc155, hc162, hc167])
            · refine own_st (fun zw zk => XS.ifNo X38.here hx rfl (hb hby at_167) rfl ((if0 _ _).trans (feq hc167).1) zk) ?_
              refine own_st (fun zw zk => XS.iload X38.here hx rfl (hb hby at_170) rfl zk) ?_
              refine own_st (fun zw zk => XS.ifNo X38.here hx rfl (hb hby at_172) rfl ((if0 _ _).trans (feq hc143).1) zk) ?_
              show own_Go p e below G (T38.setTop (mkF m 175 #[.val (.int p0), .val (.int p1), .val (.int p2), .val (.int p3), .val (.int p4), .val (.long q5), .second, .val (.int la), .val (.int ha), .val (.int lb), .val (.int hb_), .val (.int aL), .val (.int aH), .val (.int ((p4.toUInt32 >>> ((2 : Int32) &&& 31).toUInt32).toInt32)), .val (.int bL), .val (.int bH), .val (.ref b31), .val (.ref b32), .val (.ref b33), .val (.ref b36), .unset] []))
              refine own_st (fun zw zk => XS.iload X38.here hx rfl (hb hby at_175) rfl zk) ?_
              refine own_st (fun zw zk => XS.iload X38.here hx rfl (hb hby at_177) rfl zk) ?_
              by_cases hc179 : ha = lb
              · refine own_st (fun zw zk => XS.icmpYes X38.here hx rfl (pc0 := 179) (pc' := 194) rfl (hb hby at_179) rfl (teq hc179).1 (by decide) (by decide) zk) ?_
                refine own_st (fun zw zk => XS.iconst X38.here hx rfl (hb hby at_194) zk) ?_
                refine own_st (fun zw zk => XS.goto X38.here hx rfl (pc0 := 195) (pc' := 199) rfl (hb hby at_195) (by decide) (by decide) zk) ?_
                show own_Go p e below G (T38.setTop (mkF m 199 #[.val (.int p0), .val (.int p1), .val (.int p2), .val (.int p3), .val (.int p4), .val (.long q5), .second, .val (.int la), .val (.int ha), .val (.int lb), .val (.int hb_), .val (.int aL), .val (.int aH), .val (.int ((p4.toUInt32 >>> ((2 : Int32) &&& 31).toUInt32).toInt32)), .val (.int bL), .val (.int bH), .val (.ref b31), .val (.ref b32), .val (.ref b33), .val (.ref b36), .unset] [(.int (1 : Int32))]))
                refine own_st (fun zw zk => XS.istore X38.here hx rfl (hb hby at_199) rfl rfl zk) ?_
                show own_Go p e below G (T38.setTop (mkF m 201 #[.val (.int p0), .val (.int p1), .val (.int p2), .val (.int p3), .val (.int p4), .val (.long q5), .second, .val (.int la), .val (.int ha), .val (.int lb), .val (.int hb_), .val (.int aL), .val (.int aH), .val (.int ((p4.toUInt32 >>> ((2 : Int32) &&& 31).toUInt32).toInt32)), .val (.int bL), .val (.int bH), .val (.ref b31), .val (.ref b32), .val (.ref b33), .val (.ref b36), .val (.int (1 : Int32))] []))
                exact J201_39 (1 : Int32) (by unfold own_P; simp [hc138, hc143, hc150, hc155, hc162, hc167, hc179])
              · refine own_st (fun zw zk => XS.icmpNo X38.here hx rfl (hb hby at_179) rfl (feq hc179).1 zk) ?_
                refine own_st (fun zw zk => XS.iload X38.here hx rfl (hb hby at_182) rfl zk) ?_
                refine own_st (fun zw zk => XS.ifNo X38.here hx rfl (hb hby at_184) rfl ((if0 _ _).trans (feq hc155).1) zk) ?_
                refine own_st (fun zw zk => XS.iload X38.here hx rfl (hb hby at_187) rfl zk) ?_
                refine own_st (fun zw zk => XS.iload X38.here hx rfl (hb hby at_189) rfl zk) ?_
                by_cases hc191 : ha = hb_
                · refine own_st (fun zw zk => XS.icmpNo X38.here hx rfl (hb hby at_191) rfl (teq hc191).2 zk) ?_
                  show own_Go p e below G (T38.setTop (mkF m 194 #[.val (.int p0), .val (.int p1), .val (.int p2), .val (.int p3), .val (.int p4), .val (.long q5), .second, .val (.int la), .val (.int ha), .val (.int lb), .val (.int hb_), .val (.int aL), .val (.int aH), .val (.int ((p4.toUInt32 >>> ((2 : Int32) &&& 31).toUInt32).toInt32)), .val (.int bL), .val (.int bH), .val (.ref b31), .val (.ref b32), .val (.ref b33), .val (.ref b36), .unset] []))
                  refine own_st (fun zw zk => XS.iconst X38.here hx rfl (hb hby at_194) zk) ?_
                  refine own_st (fun zw zk => XS.goto X38.here hx rfl (pc0 := 195) (pc' := 199) rfl (hb hby at_195) (by decide) (by decide) zk) ?_
                  show own_Go p e below G (T38.setTop (mkF m 199 #[.val (.int p0), .val (.int p1), .val (.int p2), .val (.int p3), .val (.int p4), .val (.long q5), .second, .val (.int la), .val (.int ha), .val (.int lb), .val (.int hb_), .val (.int aL), .val (.int aH), .val (.int ((p4.toUInt32 >>> ((2 : Int32) &&& 31).toUInt32).toInt32)), .val (.int bL), .val (.int bH), .val (.ref b31), .val (.ref b32), .val (.ref b33), .val (.ref b36), .unset] [(.int (1 : Int32))]))
                  refine own_st (fun zw zk => XS.istore X38.here hx rfl (hb hby at_199) rfl rfl zk) ?_
                  show own_Go p e below G (T38.setTop (mkF m 201 #[.val (.int p0), .val (.int p1), .val (.int p2), .val (.int p3), .val (.int p4), .val (.long q5), .second, .val (.int la), .val (.int ha), .val (.int lb), .val (.int hb_), .val (.int aL), .val (.int aH), .val (.int ((p4.toUInt32 >>> ((2 : Int32) &&& 31).toUInt32).toInt32)), .val (.int bL), .val (.int bH), .val (.ref b31), .val (.ref b32), .val (.ref b33), .val (.ref b36), .val (.int (1 : Int32))] []))
                  exact J201_39 (1 : Int32) (by unfold own_P; simp [hc138, hc143, hc150, hc155, hc162, hc167, hc179, hc191])
                · refine own_st (fun zw zk => XS.icmpYes X38.here hx rfl (pc0 := 191) (pc' := 198) rfl (hb hby at_191) rfl (feq hc191).2 (by decide) (by decide) zk) ?_
                  show own_Go p e below G (T38.setTop (mkF m 198 #[.val (.int p0), .val (.int p1), .val (.int p2), .val (.int p3), .val (.int p4), .val (.long q5), .second, .val (.int la), .val (.int ha), .val (.int lb), .val (.int hb_), .val (.int aL), .val (.int aH), .val (.int ((p4.toUInt32 >>> ((2 : Int32) &&& 31).toUInt32).toInt32)), .val (.int bL), .val (.int bH), .val (.ref b31), .val (.ref b32), .val (.ref b33), .val (.ref b36), .unset] []))
                  refine own_st (fun zw zk => XS.iconst X38.here hx rfl (hb hby at_198) zk) ?_
                  refine own_st (fun zw zk => XS.istore X38.here hx rfl (hb hby at_199) rfl rfl zk) ?_
                  show own_Go p e below G (T38.setTop (mkF m 201 #[.val (.int p0), .val (.int p1), .val (.int p2), .val (.int p3), .val (.int p4), .val (.long q5), .second, .val (.int la), .val (.int ha), .val (.int lb), .val (.int hb_), .val (.int aL), .val (.int aH), .val (.int ((p4.toUInt32 >>> ((2 : Int32) &&& 31).toUInt32).toInt32)), .val (.int bL), .val (.int bH), .val (.ref b31), .val (.ref b32), .val (.ref b33), .val (.ref b36), .val (.int (0 : Int32))] []))
                  exact J201_39 (0 : Int32) (by unfold own_P; simp [hc138, hc143, hc150, hc155, hc162, hc167, hc179, hc191])
set_option maxRecDepth 65536 in
set_option maxHeartbeats 40000000 in
theorem comes_1 {Post : Tables → Env → Array Value → State → Outcome → State → Prop} (hpost : ∀ tb e args s v u, (limb_1_1.after args s (.returned v) u = true ∧ limb_1_2.after args s (.returned v) u = true ∧ True) → FrameEnd s (.returned v) u (Jvm.fieldLocs frame_1_writes args s ++ Jvm.arrayLocs frame_1_arrays args s ++ Jvm.staticLocs frame_1_statics s) 24 128 → Post tb e args s (.returned v) u) :
    ArmFor flags0 classFile x code maxLocals ret World_1 tables_1 room_1 Calls_1 rest_1 Pre_1 Post := by
  intro l hfl _ _ p e ha hc hk s m args below hf hA hF happ hP
  obtain ⟨hcalls, hrest, hpre⟩ := hP
  obtain ⟨-, -, -, hnamed, -, -, -, hat⟩ := (Spec.applies_iff hf).mp happ
  obtain ⟨hg, hn⟩ := and_e (Cond.before_iff.mp (show (Jvm.Cond.and given_1 narrow_1).before args s = true from hpre))
  obtain ⟨g1, g2⟩ := and_e hg
  obtain ⟨g3, g4⟩ := and_e g2
  obtain ⟨g5, g6⟩ := and_e g4
  obtain ⟨g7, g8⟩ := and_e g6
  obtain ⟨g9, g10⟩ := and_e g8
  obtain ⟨g11, g12⟩ := and_e g10
  obtain ⟨w0, w1, w2, w3, w4, w5, rfl⟩ : ∃ w0 w1 w2 w3 w4 w5 : Value, args = #[w0, w1, w2, w3, w4, w5] := by
    have hs : args.size = 6 := by simpa [Cond.value, given_1] using g1
    obtain ⟨L⟩ := args
    match L, hs with
    | [w0, w1, w2, w3, w4, w5], _ => exact ⟨w0, w1, w2, w3, w4, w5, rfl⟩
  have hw := fun d (hd : d ∈ tables_1) => atoms_spec (ws := Jvm.Cond.code x code maxLocals ret :: tables_1) hat d (List.mem_cons_of_mem _ hd)
  obtain ⟨i0, ei0⟩ := is_v g3
  obtain rfl : w0 = (.int i0) := Option.some.inj ei0
  obtain ⟨i1, ei1⟩ := is_v g5
  obtain rfl : w1 = (.int i1) := Option.some.inj ei1
  obtain ⟨i2, ei2⟩ := is_v g7
  obtain rfl : w2 = (.int i2) := Option.some.inj ei2
  obtain ⟨i3, ei3⟩ := is_v g9
  obtain rfl : w3 = (.int i3) := Option.some.inj ei3
  obtain ⟨i4, ei4⟩ := is_v g11
  obtain rfl : w4 = (.int i4) := Option.some.inj ei4
  obtain ⟨i5, ei5⟩ := isL_v g12
  obtain rfl : w5 = (.long i5) := Option.some.inj ei5
  obtain ⟨n, o, h1, h2, h3, _, L, rfl, ⟨rfl, N⟩, hq⟩ := rm0 l s _ hw tables_1 i0 i1 i2 i3 i4 i5 s.heap s.heap.size (Nat.le_refl _) p e ha hc hk s m _ below hf ((Spec.applies_iff_loose hf).mp happ).1 ⟨rfl, State.Warmed39.refl s, rfl⟩ trivial
  refine ⟨n, _, h1, h2, h3, hpost _ _ _ _ _ _ ⟨Cond.after_iff.mpr rfl, Cond.after_iff.mpr (eq_i res_at (Term.int_eval (1)) rfl), trivial⟩ ⟨hq.1, hq.2.1, (hq.2.2.sift fun y hy => Or.inr (N y hy)).mono (by decide) (by decide)⟩⟩
theorem main_1_1 : Claimed_1_1 := comes_1 fun _ _ _ _ _ _ h hF => ⟨h.1, hF⟩
theorem main_1_2 : Claimed_1_2 := comes_1 fun _ _ _ _ _ _ h hF => ⟨h.2.1, hF⟩
end Jvm.Pilot.@@N@@
namespace Jvm.Pilot.@@N@@
open Jvm Jvm.ClassFile Sem Op Lib Jvm.Free Jvm.Stand Jvm.Pilot.@@N@@.Jvm.D
/-! MADE BY PROGRAM (witnessworld.py) out of the Statement's table words and the real class files: 12 classes; the members and pool entries that the words name. The judged class is class 1, her method 5. -/
namespace start1
open Jvm.ClassFile
def u (s : String) : CpInfo := .utf8 (stringToUtf16 s)
/-- a pool by its gaps: so many unusable entries, then the entry; so many at the end -/
def gap : Nat → List CpInfo → List CpInfo
  | 0, r => r
  | n + 1, r => .unusable :: gap n r
def poolList (es : List (Nat × CpInfo)) (last : Nat) : List CpInfo := es.foldr (fun e r => gap e.1 (e.2 :: r)) (gap last [])
def pool (es : List (Nat × CpInfo)) (last : Nat) : Array CpInfo := ⟨poolList es last⟩
def fileOf (pool : Array CpInfo) (this : Nat) (attrs : Array Attribute := #[]) (ms : Array MethodInfo := #[]) (fl : Nat := 33) (sup : Nat := 0) (ifs : Array Nat := #[]) (fds : Array FieldInfo := #[]) : ClassFile where
  minorVersion := 0
  majorVersion := 65
  constantPool := pool
  accessFlags := fl
  thisClass := this
  superClass := sup
  interfaces := ifs
  fields := fds
  methods := ms
  attributes := attrs
def plain (name : String) (sup : Option ClassId) : Class where
  name := name
  kind := .ordinary
  loader := none
  accessFlags := 33
  super := sup
  interfaces := #[]
  cf := none
  fields := #[]
  methods := #[]
  instanceTypes := #[]
  staticTypes := #[]
  resolved := #[]
  callSites := []
  init := .initialized
  statics := none
  mirror := none

def pool0 : Array CpInfo := pool [(5, u "<init>"), (0, u "()V"), (1, .class_ 10), (1, u "java/lang/Object")] 113

def k0c0 : Code := { maxStack := 0, maxLocals := 1, code := object_method_1_code, exceptionTable := #[], attributes := #[] }
def k0m0 : Method := { name := "<init>", desc := "()V", sig := { parameters := [], returnType := none }, accessFlags := 1, code := some k0c0 }
/-- java/lang/Object -/
def k0 : Class := { plain "java/lang/Object" none with
  accessFlags := 33
  interfaces := #[]
  cf := some (fileOf pool0 8 #[] #[{ accessFlags := 1, nameIndex := 5, descriptorIndex := 6, attributes := #[] }] 33 0 #[] #[])
  fields := #[]
  methods := #[k0m0]
  instanceTypes := #[]
  staticTypes := #[]
  resolved := Array.replicate 124 none
  statics := none }

def pool1 : Array CpInfo := pool [(2, .class_ 4), (1, u "java/lang/Object"), (0, u "<init>"), (0, u "()V"), (0, .methodref 8 9), (0, .class_ 10), (0, .nameAndType 11 12), (0, u "java/lang/Math"), (0, u "min"), (0, u "(II)I"), (0, .methodref 8 14), (0, .nameAndType 15 12), (0, u "max"), (0, .methodref 17 18), (0, .class_ 19), (0, .nameAndType 20 21), (0, u "com/example/netz/netz/net/SparseVectorOverlapsPinLaw"), (0, u "useLo"), (0, u "(I)Z"), (0, .methodref 17 23), (0, .nameAndType 24 25), (0, u "useHi"), (0, u "(III)Z"), (0, .methodref 17 27), (0, .nameAndType 28 29), (0, u "indices"), (0, u "(ZZII)[I"), (0, .class_ 31), (0, u "com/example/netz/netz/net/SparseVector"), (0, .methodref 17 33), (0, .nameAndType 34 35), (0, u "values"), (0, u "(IJ)[J"), (0, .methodref 30 37), (0, .nameAndType 5 38), (0, u "([I[J)V"), (0, .methodref 30 40), (0, .nameAndType 41 42), (0, u "overlaps"), (0, u "(Lcom/example/netz/netz/net/SparseVector;)Z"), (7, u "law"), (0, u "(IIIIIJ)Z")] 2

def k1m0 : Method := { name := "<init>", desc := "()V", sig := { parameters := [], returnType := none }, accessFlags := 1, code := none }
def k1c1 : Code := { maxStack := 2, maxLocals := 1, code := method_2_code, exceptionTable := #[], attributes := #[] }
def k1m1 : Method := { name := "useLo", desc := "(I)Z", sig := { parameters := [.int], returnType := some .boolean }, accessFlags := 10, code := some k1c1 }
def k1c2 : Code := { maxStack := 2, maxLocals := 3, code := method_3_code, exceptionTable := #[], attributes := #[] }
def k1m2 : Method := { name := "useHi", desc := "(III)Z", sig := { parameters := [.int, .int, .int], returnType := some .boolean }, accessFlags := 10, code := some k1c2 }
def k1c3 : Code := { maxStack := 3, maxLocals := 7, code := method_4_code, exceptionTable := #[], attributes := #[] }
def k1m3 : Method := { name := "indices", desc := "(ZZII)[I", sig := { parameters := [.boolean, .boolean, .int, .int], returnType := some (.array .int) }, accessFlags := 10, code := some k1c3 }
def k1c4 : Code := { maxStack := 6, maxLocals := 4, code := method_5_code, exceptionTable := #[], attributes := #[] }
def k1m4 : Method := { name := "values", desc := "(IJ)[J", sig := { parameters := [.int, .long], returnType := some (.array .long) }, accessFlags := 10, code := some k1c4 }
def k1c5 : Code := { maxStack := 7, maxLocals := 21, code := code, exceptionTable := #[], attributes := #[] }
def k1m5 : Method := { name := "law", desc := "(IIIIIJ)Z", sig := { parameters := [.int, .int, .int, .int, .int, .long], returnType := some .boolean }, accessFlags := 9, code := some k1c5 }
/-- com/example/netz/netz/net/SparseVectorOverlapsPinLaw -/
def k1 : Class := { plain "com/example/netz/netz/net/SparseVectorOverlapsPinLaw" (some 0) with
  accessFlags := 49
  interfaces := #[]
  cf := some (fileOf pool1 17 #[] #[{ accessFlags := 1, nameIndex := 5, descriptorIndex := 6, attributes := #[] }, { accessFlags := 10, nameIndex := 20, descriptorIndex := 21, attributes := #[] }, { accessFlags := 10, nameIndex := 24, descriptorIndex := 25, attributes := #[] }, { accessFlags := 10, nameIndex := 28, descriptorIndex := 29, attributes := #[] }, { accessFlags := 10, nameIndex := 34, descriptorIndex := 35, attributes := #[] }, { accessFlags := 9, nameIndex := 50, descriptorIndex := 51, attributes := #[] }] 49 2 #[] #[])
  fields := #[]
  methods := #[k1m0, k1m1, k1m2, k1m3, k1m4, k1m5]
  instanceTypes := #[]
  staticTypes := #[]
  resolved := Array.replicate 54 none
  statics := none }

def pool2 : Array CpInfo := pool [(1, .class_ 2), (0, u "java/lang/Math"), (1, .class_ 6), (1, u "java/lang/Object"), (0, u "<init>"), (0, u "()V"), (89, .class_ 100), (1, u "java/lang/Math$RandomNumberGeneratorHolder"), (71, u "negativeZeroFloatBits"), (0, u "J"), (2, u "negativeZeroDoubleBits"), (21, u "max"), (2, u "min"), (43, u "$assertionsDisabled"), (0, u "Z"), (88, u "(II)I"), (2, u "twoToTheDoubleScaleDown"), (0, u "D"), (4, u "twoToTheDoubleScaleUp"), (9, u "E"), (3, u "PI"), (2, u "TAU"), (2, u "DEGREES_TO_RADIANS"), (0, u "RADIANS_TO_DEGREES")] 94

def k2m0 : Method := { name := "<init>", desc := "()V", sig := { parameters := [], returnType := none }, accessFlags := 2, code := none }
def k2c1 : Code := { maxStack := 2, maxLocals := 2, code := jdk_29_method_65_code, exceptionTable := #[], attributes := #[] }
def k2m1 : Method := { name := "max", desc := "(II)I", sig := { parameters := [.int, .int], returnType := some .int }, accessFlags := 9, code := some k2c1 }
def k2c2 : Code := { maxStack := 2, maxLocals := 2, code := jdk_29_method_69_code, exceptionTable := #[], attributes := #[] }
def k2m2 : Method := { name := "min", desc := "(II)I", sig := { parameters := [.int, .int], returnType := some .int }, accessFlags := 9, code := some k2c2 }
/-- java/lang/Math -/
def k2 : Class := { plain "java/lang/Math" (some 0) with
  accessFlags := 49
  interfaces := #[]
  cf := some (fileOf pool2 1 #[.nestMembers #[98]] #[{ accessFlags := 2, nameIndex := 7, descriptorIndex := 8, attributes := #[] }, { accessFlags := 9, nameIndex := 198, descriptorIndex := 335, attributes := #[] }, { accessFlags := 9, nameIndex := 201, descriptorIndex := 335, attributes := #[] }] 49 4 #[] #[{ accessFlags := 25, nameIndex := 354, descriptorIndex := 339, attributes := #[] }, { accessFlags := 25, nameIndex := 358, descriptorIndex := 339, attributes := #[] }, { accessFlags := 25, nameIndex := 361, descriptorIndex := 339, attributes := #[] }, { accessFlags := 26, nameIndex := 364, descriptorIndex := 339, attributes := #[] }, { accessFlags := 26, nameIndex := 365, descriptorIndex := 339, attributes := #[] }, { accessFlags := 26, nameIndex := 172, descriptorIndex := 173, attributes := #[] }, { accessFlags := 26, nameIndex := 176, descriptorIndex := 173, attributes := #[] }, { accessFlags := 8, nameIndex := 344, descriptorIndex := 339, attributes := #[] }, { accessFlags := 8, nameIndex := 338, descriptorIndex := 339, attributes := #[] }, { accessFlags := 4120, nameIndex := 245, descriptorIndex := 246, attributes := #[] }])
  fields := #[{ name := "E", type := .double, accessFlags := 25, slot := 0, constantValue := 0 }, { name := "PI", type := .double, accessFlags := 25, slot := 1, constantValue := 0 }, { name := "TAU", type := .double, accessFlags := 25, slot := 2, constantValue := 0 }, { name := "DEGREES_TO_RADIANS", type := .double, accessFlags := 26, slot := 3, constantValue := 0 }, { name := "RADIANS_TO_DEGREES", type := .double, accessFlags := 26, slot := 4, constantValue := 0 }, { name := "negativeZeroFloatBits", type := .long, accessFlags := 26, slot := 5, constantValue := 0 }, { name := "negativeZeroDoubleBits", type := .long, accessFlags := 26, slot := 6, constantValue := 0 }, { name := "twoToTheDoubleScaleUp", type := .double, accessFlags := 8, slot := 7, constantValue := 0 }, { name := "twoToTheDoubleScaleDown", type := .double, accessFlags := 8, slot := 8, constantValue := 0 }, { name := "$assertionsDisabled", type := .boolean, accessFlags := 4120, slot := 9, constantValue := 0 }]
  methods := #[k2m0, k2m1, k2m2]
  instanceTypes := #[]
  staticTypes := #[.double, .double, .double, .double, .double, .long, .long, .double, .double, .boolean]
  resolved := Array.replicate 460 none
  statics := none }

def pool3 : Array CpInfo := pool [(1, .methodref 2 3), (0, .class_ 4), (0, .nameAndType 5 6), (0, u "java/lang/Object"), (0, u "<init>"), (0, u "()V"), (0, .fieldref 8 9), (0, .class_ 10), (0, .nameAndType 11 12), (0, u "com/example/netz/netz/net/SparseVector"), (0, u "indices"), (0, u "[I"), (0, .fieldref 8 14), (0, .nameAndType 15 16), (0, u "values"), (0, u "[J"), (8, u "([I[J)V"), (102, u "overlaps"), (0, u "(Lcom/example/netz/netz/net/SparseVector;)Z")] 17

def k3c0 : Code := { maxStack := 2, maxLocals := 3, code := prog_42_method_1_code, exceptionTable := #[], attributes := #[] }
def k3m0 : Method := { name := "<init>", desc := "([I[J)V", sig := { parameters := [(.array .int), (.array .long)], returnType := none }, accessFlags := 1, code := some k3c0 }
def k3c1 : Code := { maxStack := 3, maxLocals := 4, code := prog_42_method_10_code, exceptionTable := #[], attributes := #[] }
def k3m1 : Method := { name := "overlaps", desc := "(Lcom/example/netz/netz/net/SparseVector;)Z", sig := { parameters := [(.object "com/example/netz/netz/net/SparseVector")], returnType := some .boolean }, accessFlags := 1, code := some k3c1 }
/-- com/example/netz/netz/net/SparseVector -/
def k3 : Class := { plain "com/example/netz/netz/net/SparseVector" (some 0) with
  accessFlags := 33
  interfaces := #[]
  cf := some (fileOf pool3 8 #[] #[{ accessFlags := 1, nameIndex := 5, descriptorIndex := 25, attributes := #[] }, { accessFlags := 1, nameIndex := 128, descriptorIndex := 129, attributes := #[] }] 33 2 #[] #[{ accessFlags := 18, nameIndex := 11, descriptorIndex := 12, attributes := #[] }, { accessFlags := 18, nameIndex := 15, descriptorIndex := 16, attributes := #[] }])
  fields := #[{ name := "indices", type := (.array .int), accessFlags := 18, slot := 0, constantValue := 0 }, { name := "values", type := (.array .long), accessFlags := 18, slot := 1, constantValue := 0 }]
  methods := #[k3m0, k3m1]
  instanceTypes := #[(.array .int), (.array .long)]
  staticTypes := #[]
  resolved := Array.replicate 147 none
  statics := none }

def pool4 : Array CpInfo := pool [(1, u "java/lang/Cloneable"), (0, .class_ 1), (0, u "java/lang/Object"), (0, .class_ 3)] 3

/-- java/lang/Cloneable -/
def k4 : Class := { plain "java/lang/Cloneable" (some 0) with
  accessFlags := 1537
  interfaces := #[]
  cf := some (fileOf pool4 2 #[] #[] 1537 4 #[] #[])
  fields := #[]
  methods := #[]
  instanceTypes := #[]
  staticTypes := #[]
  resolved := Array.replicate 8 none
  statics := none }

def pool5 : Array CpInfo := pool [(1, u "java/io/Serializable"), (0, .class_ 1), (0, u "java/lang/Object"), (0, .class_ 3)] 3

/-- java/io/Serializable -/
def k5 : Class := { plain "java/io/Serializable" (some 0) with
  accessFlags := 1537
  interfaces := #[]
  cf := some (fileOf pool5 2 #[] #[] 1537 4 #[] #[])
  fields := #[]
  methods := #[]
  instanceTypes := #[]
  staticTypes := #[]
  resolved := Array.replicate 8 none
  statics := none }

/-- the primitive byte -/
def k6 : Class := { plain "byte" none with kind := .primitive 'B', accessFlags := 0x411 }
/-- [B -/
def k7 : Class := { plain "[B" (some 0) with kind := .array 6 .byte, interfaces := #[4, 5], accessFlags := 1041 }

/-- the primitive int -/
def k8 : Class := { plain "int" none with kind := .primitive 'I', accessFlags := 0x411 }
/-- [I -/
def k9 : Class := { plain "[I" (some 0) with kind := .array 8 .int, interfaces := #[4, 5], accessFlags := 1041 }

/-- the primitive long -/
def k10 : Class := { plain "long" none with kind := .primitive 'J', accessFlags := 0x411 }
/-- [J -/
def k11 : Class := { plain "[J" (some 0) with kind := .array 10 .long, interfaces := #[4, 5], accessFlags := 1041 }

def heap : Heap := #[]
def classes : Array Class := #[k0, k1, k2, k3, k4, k5, k6, k7, k8, k9, k10, k11]
def interned : List (Array UInt16 × Addr) := []
def slotsUsed : Nat := 0
def theMethod : MethodId := ⟨1, 5⟩
def args0 : Array Value := #[.int 2, .int 5, .int 6, .int 7, .int 8, .long 9]
def aboutOver (below : List Frame) : State where
  vm := { classes := classes, interned := interned.toArray }
  heap := heap
  slotsUsed := slotsUsed
  threads := #[{ frames := .invoking theMethod args0 :: below }]
def below0 : List Frame := [.native { method := ⟨0, 0⟩, args := #[] }]
def about1 : State := aboutOver below0
def p0 : Program := .bare "" "" ""
def e0 : Env := launch0.env 0 0 0
theorem w_frames : about1.frames = Frame.invoking theMethod args0 :: below0 := rfl
set_option maxRecDepth 65536 in
theorem w_args : argsFit about1.vm theMethod args0 = true := by decide +kernel
set_option maxRecDepth 65536 in
theorem w_heap : heapFits about1 = true := by decide +kernel
set_option maxRecDepth 65536 in
theorem w_runnable : about1.curStatus? = some .runnable := by decide +kernel
set_option maxRecDepth 65536 in
theorem w_alone : about1.alone = true := by decide +kernel
set_option maxRecDepth 65536 in
theorem w_named : about1.methodNamed? x = some theMethod := by decide +kernel
set_option maxRecDepth 65536 in
theorem w_hears : about1.hears theMethod below0 = true := by decide +kernel
set_option maxRecDepth 65536 in
theorem w_ripe : about1.ripe theMethod args0 below0 = true := by decide +kernel
theorem w_running : about1.status = .running := rfl
set_option maxRecDepth 65536 in
theorem w_room : about1.hasRoom e0.platform room_1 = true :=
  launch0.hasRoom_least _ room_1 (by decide +kernel) (by decide +kernel) (by decide +kernel) (by decide +kernel) (by decide +kernel) (by decide +kernel)
theorem allAtoms_all (ts : List Jvm.Cond) (a : Array Jvm.Value) (st : Jvm.State) : (allAtoms ts).before a st = ts.all (fun c => c.before a st) := by
  induction ts with
  | nil => rfl
  | cons c t ih =>
    show (Jvm.Cond.and c (allAtoms t)).before a st = _
    rw [Jvm.Cond.before_and, ih, List.all_cons]
def words1 : List Jvm.Cond := Jvm.Cond.code x code maxLocals ret :: tables_1
/-- a 'code' word, met by the world's own term for the bytes: nothing is compared byte by byte -/
theorem code_word {y : MethodName} {bytes : ByteArray} {mx : Nat} {rt : Option FieldType} {a : Array Value} {s : State} {m : MethodId} {meth : Method} {c : Code} (h1 : s.methodNamed? y = some m) (h2 : s.vm.method? m = some meth) (h3 : meth.code = some c) (h4 : c.code = bytes)
    (h5 : (c.maxLocals == mx && c.exceptionTable.isEmpty && decide (c.maxStack ≤ mostOperands) && decide (meth.sig.returnType = rt) && !meth.locks && decide (parseMethodDescriptor y.desc = some meth.sig)) = true) : (Jvm.Cond.code y bytes mx rt).before a s = true := by
  simp only [Bool.and_eq_true, beq_iff_eq, Bool.not_eq_true', decide_eq_true_eq] at h5
  obtain ⟨⟨⟨⟨⟨g1, g2⟩, g3⟩, g4⟩, g5⟩, g6⟩ := h5
  simp [Cond.before, Cond.holds, Cond.value, h1, h2, h3, h4, g1, g2, g3, g4, g5, g6]
def isCode : Jvm.Cond → Bool
  | .code _ _ _ _ => true
  | _ => false
theorem all_split {L : List Jvm.Cond} {P : Jvm.Cond → Bool} (h1 : L.all (fun c => isCode c || P c) = true) (h2 : ∀ c ∈ L.filter isCode, P c = true) : L.all P = true := by
  refine List.all_eq_true.mpr fun c hc => ?_
  have h := List.all_eq_true.mp h1 c hc
  rcases Bool.eq_false_or_eq_true (isCode c) with hi | hi
  · exact h2 c (List.mem_filter.mpr ⟨hc, hi⟩)
  · simpa [hi] using h
set_option maxRecDepth 65536 in
theorem w_c0 : (Jvm.Cond.code x code maxLocals ret).before args0 about1 = true := code_word (m := ⟨1, 5⟩) (meth := k1m5) (c := k1c5) (by decide +kernel) rfl rfl rfl (by decide +kernel)
set_option maxRecDepth 65536 in
theorem w_c1 : (Jvm.Cond.code ({ cls := "java/lang/Math", name := "min", desc := "(II)I" } : Jvm.MethodName) jdk_29_method_69_code (2 : Nat) (Option.some Jvm.ClassFile.FieldType.int)).before args0 about1 = true := code_word (m := ⟨2, 2⟩) (meth := k2m2) (c := k2c2) (by decide +kernel) rfl rfl rfl (by decide +kernel)
set_option maxRecDepth 65536 in
theorem w_c2 : (Jvm.Cond.code ({ cls := "java/lang/Math", name := "max", desc := "(II)I" } : Jvm.MethodName) jdk_29_method_65_code (2 : Nat) (Option.some Jvm.ClassFile.FieldType.int)).before args0 about1 = true := code_word (m := ⟨2, 1⟩) (meth := k2m1) (c := k2c1) (by decide +kernel) rfl rfl rfl (by decide +kernel)
set_option maxRecDepth 65536 in
theorem w_c3 : (Jvm.Cond.code ({ cls := "com/example/netz/netz/net/SparseVectorOverlapsPinLaw", name := "useLo", desc := "(I)Z" } : Jvm.MethodName) method_2_code (1 : Nat) (Option.some Jvm.ClassFile.FieldType.boolean)).before args0 about1 = true := code_word (m := ⟨1, 1⟩) (meth := k1m1) (c := k1c1) (by decide +kernel) rfl rfl rfl (by decide +kernel)
set_option maxRecDepth 65536 in
theorem w_c4 : (Jvm.Cond.code ({ cls := "com/example/netz/netz/net/SparseVectorOverlapsPinLaw", name := "useHi", desc := "(III)Z" } : Jvm.MethodName) method_3_code (3 : Nat) (Option.some Jvm.ClassFile.FieldType.boolean)).before args0 about1 = true := code_word (m := ⟨1, 2⟩) (meth := k1m2) (c := k1c2) (by decide +kernel) rfl rfl rfl (by decide +kernel)
set_option maxRecDepth 65536 in
theorem w_c5 : (Jvm.Cond.code ({ cls := "com/example/netz/netz/net/SparseVectorOverlapsPinLaw", name := "indices", desc := "(ZZII)[I" } : Jvm.MethodName) method_4_code (7 : Nat) (Option.some (Jvm.ClassFile.FieldType.array Jvm.ClassFile.FieldType.int))).before args0 about1 = true := code_word (m := ⟨1, 3⟩) (meth := k1m3) (c := k1c3) (by decide +kernel) rfl rfl rfl (by decide +kernel)
set_option maxRecDepth 65536 in
theorem w_c6 : (Jvm.Cond.code ({ cls := "com/example/netz/netz/net/SparseVectorOverlapsPinLaw", name := "values", desc := "(IJ)[J" } : Jvm.MethodName) method_5_code (4 : Nat) (Option.some (Jvm.ClassFile.FieldType.array Jvm.ClassFile.FieldType.long))).before args0 about1 = true := code_word (m := ⟨1, 4⟩) (meth := k1m4) (c := k1c4) (by decide +kernel) rfl rfl rfl (by decide +kernel)
set_option maxRecDepth 65536 in
theorem w_c7 : (Jvm.Cond.code ({ cls := "com/example/netz/netz/net/SparseVector", name := "<init>", desc := "([I[J)V" } : Jvm.MethodName) prog_42_method_1_code (3 : Nat) (Option.none : Option Jvm.ClassFile.FieldType)).before args0 about1 = true := code_word (m := ⟨3, 0⟩) (meth := k3m0) (c := k3c0) (by decide +kernel) rfl rfl rfl (by decide +kernel)
set_option maxRecDepth 65536 in
theorem w_c8 : (Jvm.Cond.code ({ cls := "java/lang/Object", name := "<init>", desc := "()V" } : Jvm.MethodName) object_method_1_code (1 : Nat) (Option.none : Option Jvm.ClassFile.FieldType)).before args0 about1 = true := code_word (m := ⟨0, 0⟩) (meth := k0m0) (c := k0c0) (by decide +kernel) rfl rfl rfl (by decide +kernel)
set_option maxRecDepth 65536 in
theorem w_c9 : (Jvm.Cond.code ({ cls := "com/example/netz/netz/net/SparseVector", name := "overlaps", desc := "(Lcom/example/netz/netz/net/SparseVector;)Z" } : Jvm.MethodName) prog_42_method_10_code (4 : Nat) (Option.some Jvm.ClassFile.FieldType.boolean)).before args0 about1 = true := code_word (m := ⟨3, 1⟩) (meth := k3m1) (c := k3c1) (by decide +kernel) rfl rfl rfl (by decide +kernel)
def codes1 : List Jvm.Cond := [Jvm.Cond.code x code maxLocals ret, Jvm.Cond.code ({ cls := "java/lang/Math", name := "min", desc := "(II)I" } : Jvm.MethodName) jdk_29_method_69_code (2 : Nat) (Option.some Jvm.ClassFile.FieldType.int), Jvm.Cond.code ({ cls := "java/lang/Math", name := "max", desc := "(II)I" } : Jvm.MethodName) jdk_29_method_65_code (2 : Nat) (Option.some Jvm.ClassFile.FieldType.int), Jvm.Cond.code ({ cls := "com/example/netz/netz/net/SparseVectorOverlapsPinLaw", name := "useLo", desc := "(I)Z" } : Jvm.MethodName) method_2_code (1 : Nat) (Option.some Jvm.ClassFile.FieldType.boolean), Jvm.Cond.code ({ cls := "com/example/netz/netz/net/SparseVectorOverlapsPinLaw", name := "useHi", desc := "(III)Z" } : Jvm.MethodName) method_3_code (3 : Nat) (Option.some Jvm.ClassFile.FieldType.boolean), Jvm.Cond.code ({ cls := "com/example/netz/netz/net/SparseVectorOverlapsPinLaw", name := "indices", desc := "(ZZII)[I" } : Jvm.MethodName) method_4_code (7 : Nat) (Option.some (Jvm.ClassFile.FieldType.array Jvm.ClassFile.FieldType.int)), Jvm.Cond.code ({ cls := "com/example/netz/netz/net/SparseVectorOverlapsPinLaw", name := "values", desc := "(IJ)[J" } : Jvm.MethodName) method_5_code (4 : Nat) (Option.some (Jvm.ClassFile.FieldType.array Jvm.ClassFile.FieldType.long)), Jvm.Cond.code ({ cls := "com/example/netz/netz/net/SparseVector", name := "<init>", desc := "([I[J)V" } : Jvm.MethodName) prog_42_method_1_code (3 : Nat) (Option.none : Option Jvm.ClassFile.FieldType), Jvm.Cond.code ({ cls := "java/lang/Object", name := "<init>", desc := "()V" } : Jvm.MethodName) object_method_1_code (1 : Nat) (Option.none : Option Jvm.ClassFile.FieldType), Jvm.Cond.code ({ cls := "com/example/netz/netz/net/SparseVector", name := "overlaps", desc := "(Lcom/example/netz/netz/net/SparseVector;)Z" } : Jvm.MethodName) prog_42_method_10_code (4 : Nat) (Option.some Jvm.ClassFile.FieldType.boolean)]
set_option maxRecDepth 65536 in
theorem codes_eq : words1.filter isCode = codes1 := rfl
theorem w_codes : ∀ c ∈ words1.filter isCode, c.before args0 about1 = true := by
  rw [codes_eq]
  intro c hc
  simp only [codes1, List.mem_cons, List.not_mem_nil, or_false] at hc
  rcases hc with rfl | rfl | rfl | rfl | rfl | rfl | rfl | rfl | rfl | rfl
  · exact w_c0
  · exact w_c1
  · exact w_c2
  · exact w_c3
  · exact w_c4
  · exact w_c5
  · exact w_c6
  · exact w_c7
  · exact w_c8
  · exact w_c9
set_option maxRecDepth 65536 in
theorem w_t1 : (words1.take 24).all (fun c => isCode c || c.before args0 about1) = true := by decide +kernel
set_option maxRecDepth 65536 in
theorem w_t2 : (words1.drop 24).all (fun c => isCode c || c.before args0 about1) = true := by decide +kernel
theorem w_tables : (allAtoms (Jvm.Cond.code x code maxLocals ret :: tables_1)).before args0 about1 = true := by
  rw [allAtoms_all]
  show words1.all (fun c => c.before args0 about1) = true
  refine all_split ?_ w_codes
  rw [← List.take_append_drop 24 words1, List.all_append, w_t1, w_t2]
  rfl
set_option maxRecDepth 65536 in
theorem w_case : (Jvm.Cond.and given_1 narrow_1).before args0 about1 = true := by decide +kernel
theorem w_applies : (headSpec (Jvm.Cond.code x code maxLocals ret :: tables_1) room_1).applies x e0.platform about1 = true :=
  (Spec.applies_iff w_frames).mpr ⟨w_running, w_runnable, w_alone, w_named, w_hears, w_ripe, w_room, w_tables⟩
theorem atStart : AtStart classFile x code maxLocals ret World_1 tables_1 room_1 Calls_1 rest_1 Pre_1 launch0 p0 e0 about1 theMethod args0 below0 :=
  ⟨lists_1, trivial, launch0.admits_env _ _ _, launch0.least_env, fairChoices_fair.cas, fairChoices_fair.clock, w_frames, w_args, w_heap, w_applies, trivial, trivial, w_case⟩
end start1
theorem witness_1 : WitnessClaimed_1 := ⟨start1.p0, start1.e0, start1.about1, start1.theMethod, start1.args0, start1.below0, start1.atStart⟩
end Jvm.Pilot.@@N@@
