import JvmDerived
import JvmDerived.Pilot.@@N@@Statement
import JvmDerived.Pilot.@@N@@Code
set_option linter.unusedVariables false
set_option linter.unusedSimpArgs false
namespace Jvm.RoadKit
open Sem ClassFile Op Lib Jvm.Stand Jvm.Free Jvm.LawKit
section New
variable {p : Program} {l : Launch} {e : Env} {R : Room} {s : State} {m : MethodId} {args : Array Value} {below : List Frame} {meth : Method} {c : Code} {T : State} {locs : List Loc} {cells slots : Nat}
theorem retI (X : Stand p l e R s m args below meth c T locs cells slots) (hx : p.tables.exec = Jvm.exec) {pc : Nat} {Ls : Array Slot} {z : Int32} {rest : List Value} (hret : meth.sig.returnType = some .int) (hd : decode c.code pc = .ok (.ireturn, 1)) {fs : List Frame}
    (hl : ∀ (f : JFrame) (acts : List Action), f.method = m → f.locked = none → f.entered = [] → (doReturn e (T.setTop f) acts (some (.int z))).1 = T.setFrames fs) : Steps p.tables e below (T.setTop (mkF m pc Ls (.int z :: rest))) (T.setFrames fs) := by
  have hm' : T.vm.method? m = some meth := X.method'
  have hn : narrow .int (.int z) = .int z := rfl
  show Steps p.tables e below (T.setTop { method := m, pc := pc, locals := Ls, stack := _ :: rest, locked := none }) _
  jvm_step X.here [X.here.top, hx, hd, hm', hret, hn]
  first | (intro acts; rw [hl _ acts rfl rfl rfl]) | rw [hl _ _ rfl rfl rfl]
  exact Steps.refl _
theorem retJ (X : Stand p l e R s m args below meth c T locs cells slots) (hx : p.tables.exec = Jvm.exec) {pc : Nat} {Ls : Array Slot} {z : Int64} {rest : List Value} (hret : meth.sig.returnType = some .long) (hd : decode c.code pc = .ok (.lreturn, 1)) {fs : List Frame}
    (hl : ∀ (f : JFrame) (acts : List Action), f.method = m → f.locked = none → f.entered = [] → (doReturn e (T.setTop f) acts (some (.long z))).1 = T.setFrames fs) : Steps p.tables e below (T.setTop (mkF m pc Ls (.long z :: rest))) (T.setFrames fs) :=
  retOut X hx hret rfl (Or.inr (Or.inl ⟨rfl, rfl, z, rfl⟩)) hd hl
theorem retA (X : Stand p l e R s m args below meth c T locs cells slots) (hx : p.tables.exec = Jvm.exec) {pc : Nat} {Ls : Array Slot} {a : Addr} {t : FieldType} {rest : List Value} (hret : meth.sig.returnType = some t) (ht : t.isReference = true) (hd : decode c.code pc = .ok (.areturn, 1)) {fs : List Frame}
    (hl : ∀ (f : JFrame) (acts : List Action), f.method = m → f.locked = none → f.entered = [] → (doReturn e (T.setTop f) acts (some (.ref a))).1 = T.setFrames fs) : Steps p.tables e below (T.setTop (mkF m pc Ls (.ref a :: rest))) (T.setFrames fs) :=
  retOut X hx hret (by cases t <;> first | rfl | (simp [FieldType.isReference] at ht)) (Or.inr (Or.inr (Or.inr (Or.inr ⟨rfl, ht, rfl⟩)))) hd hl
end New
end Jvm.RoadKit
namespace Jvm.Pilot.@@N@@
open Jvm Jvm.ClassFile Sem Op Lib Jvm.Free Jvm.Stand Jvm.LawKit Jvm.RoadKit Bundle Jvm.Pilot.@@N@@.Jvm.D
section OwnKit
variable {p : Program} {l : Launch} {e : Env} {R : Room} {s : State} {m : MethodId} {args : Array Value} {below : List Frame} {meth : Method} {c : Code} {T : State} {locs : List Loc} {cells slots : Nat} {Z : State} {h h' : Heap}
/-- one body's contract, with the walk's goal as a closed predicate K: 'go' takes a step, 'fin' leaves the method -/
theorem own_body {y : MethodName} {bytes : ByteArray} {maxL : Nat} {ret : Option FieldType} {ws : List Jvm.Cond} {rm : Room} {h0 : Heap} {Q : Option Value → Heap → List Loc → Prop} (hp : plainFor y = true)
    (body : ∀ (p : Program) (e : Env) (s : State) (m : MethodId) (below : List Frame) (meth : Method) (c : Code) (s₁ : State) (K : State → Prop),
      (∀ U U', (∀ t, Steps p.tables e below U' t → Steps p.tables e below U t) → K U' → K U) →
      (∀ {T : State} {locs : List Loc} {cells slots : Nat} {g : JFrame} (v : Option Value), Stand p l e rm s m args below meth c T locs cells slots → cells ≤ rm.cells → slots ≤ rm.slots → (ret = none → v = none) → Q v T.heap locs →
        (∀ fs, (∀ (f : JFrame) (acts : List Action), f.method = m → f.locked = none → f.entered = [] → (doReturn e (T.setTop f) acts v).1 = T.setFrames fs) → Steps p.tables e below (T.setTop g) (T.setFrames fs)) → K (T.setTop g)) →
      Stand p l e rm s m args below meth c s₁ [] 0 0 → p.tables.exec = Jvm.exec → c.code = bytes → c.maxLocals = maxL → s.vm.findClass y.cls = some m.cls → meth.name = y.name → meth.sig.returnType = ret → Z.Warmed39 s.vm → s₁.heap = h0 → K (s₁.setTop (entryFrame m args maxL))) :
    MetFree l y (head1 (Jvm.Cond.code y bytes maxL ret :: ws) rm) (fun a U => a = args ∧ Z.Warmed39 U.vm ∧ U.heap = h0) (fun _ _ _ _ _ => True) (fun _ U o U' => ∃ v L, o = .returned v ∧ Q v U'.heap L ∧ FrameEnd U o U' L rm.cells rm.slots) := by
  refine MetFree.of_bodySF hp hisR ?_
  intro p e s m args' below meth c s₁ Bd hml hP hK
  obtain ⟨rfl, hZ, hh⟩ := hP
  refine body p e s m below meth c s₁ (fun U => ∃ s₂ o, Steps p.tables e below U s₂ ∧ s₂.status = .running ∧ Ended s₂ below o ∧ ∃ v L, o = .returned v ∧ Q v s₂.heap L ∧ FrameEnd s o s₂ L rm.cells rm.slots) ?_ ?_ (Stand.of_body Bd) Bd.exec Bd.bytes hml (findClass_of_methodNamed Bd.named) (name_of_methodNamed Bd.named Bd.method).1 Bd.returns hZ (by rw [← hh, Bd.state]; rfl)
  · rintro U U' st ⟨s₂, o, h1, h2⟩
    exact ⟨s₂, o, st _ h1, h2⟩
  · intro T locs cells slots g v X hc hs hv hQ hst
    obtain ⟨fs, hr, hrun, hended, hW, hsame⟩ := X.leave (v := v) (fun q => hv (Bd.returns ▸ q))
    exact ⟨_, _, hst fs hr, hrun, hended, v, locs, rfl, hQ, ⟨_, rfl⟩, hW, hsame.mono hc hs⟩
/-! Java's shifts and the narrowing to a byte -/
def jushr (x y : Int32) : Int32 := (x.toUInt32 >>> (y &&& 31).toUInt32).toInt32
def jshl (x y : Int32) : Int32 := x <<< (y &&& 31)
def jshr (x y : Int32) : Int32 := x >>> (y &&& 31)
def jushrL (x : Int64) (y : Int32) : Int64 := (x.toUInt64 >>> (y &&& 0x3f).toInt64.toUInt64).toInt64
def jshlL (x : Int64) (y : Int32) : Int64 := x <<< (y &&& 0x3f).toInt64
def jshrL (x : Int64) (y : Int32) : Int64 := x >>> (y &&& 0x3f).toInt64
def jb (x : Int32) : Int32 := x.toInt8.toInt32
theorem own_lrem {g : JFrame} {target : State} (X : Stand p l e R s m args below meth c T locs cells slots) (hx : p.tables.exec = Jvm.exec) (hg : g.method = m) {x y : Int64} {rest : List Value} (hd : decode c.code g.pc = .ok (.lrem, 1)) (hs : g.stack = .long y :: .long x :: rest) (hy : y ≠ 0)
    (hr : Steps p.tables e below (T.setTop { g with pc := g.pc + 1, stack := .long (x % y) :: rest }) target) : Steps p.tables e below (T.setTop g) target :=
  XS.lrem X.here hx hg hd hs hy (by rw [lrem_mod]; exact hr)
theorem own_narb (x : Int32) : nar .byte (jb x) = jb x := by simp [nar, jb]
/-! an array by its length and what its places hold -/
def own_upd (f : Nat → Value) (i : Nat) (v : Value) : Nat → Value := fun j => if j = i then v else f j
theorem own_hit (f : Nat → Value) (i : Nat) (v : Value) : own_upd f i v i = v := if_pos rfl
theorem own_miss {f : Nat → Value} {i j : Nat} {v : Value} (q : j ≠ i) : own_upd f i v j = f j := if_neg q
def AF (Z : State) (h : Heap) (a : Addr) (ty : FieldType) (n : Nat) (f : Nat → Value) : Prop := n < 2 ^ 31 ∧ ∃ c : Cell, Arr Z h a c ty ∧ c.slots.size = n ∧ ∀ j, j < n → c.slots[j]? = some (f j)
theorem AF.lt {a : Addr} {ty : FieldType} {n : Nat} {f : Nat → Value} (A : AF Z h a ty n f) : a < h.size := by obtain ⟨-, c, A, -⟩ := A; exact A.lt
theorem AF.ext {a : Addr} {ty : FieldType} {n : Nat} {f : Nat → Value} (A : AF Z h a ty n f) (E : Ext h h') : AF Z h' a ty n f := by obtain ⟨q, c, A, r⟩ := A; exact ⟨q, c, A.ext E, r⟩
theorem AF.other {a b : Addr} {sl : Nat} {v : Value} {ty : FieldType} {n : Nat} {f : Nat → Value} (A : AF Z h b ty n f) (W : Wr h h' a sl v) (q : b ≠ a) : AF Z h' b ty n f := by obtain ⟨q1, c, A, r⟩ := A; exact ⟨q1, c, A.other W q, r⟩
theorem AF.keep {a : Addr} {ws : List Addr} {ty : FieldType} {n : Nat} {f : Nat → Value} (A : AF Z h a ty n f) (K : Keep h h' ws) (q : a ∉ ws) : AF Z h' a ty n f := by obtain ⟨q1, c, A, r⟩ := A; exact ⟨q1, c, ⟨K.2.1 a c A.1 q, A.2⟩, r⟩
theorem AF.congr {a : Addr} {ty : FieldType} {n : Nat} {f f' : Nat → Value} (A : AF Z h a ty n f) (q : ∀ j, j < n → f j = f' j) : AF Z h a ty n f' := by obtain ⟨q1, c, A, S, r⟩ := A; exact ⟨q1, c, A, S, fun j hj => by rw [← q j hj]; exact r j hj⟩
theorem AF.len {a : Addr} {ty : FieldType} {n : Nat} {f : Nat → Value} (A : AF Z h a ty n f) : n < 2 ^ 31 := A.1
theorem own_idx {j : Int32} {i : Nat} (hj : j.toInt = (i : Int)) : j.toNatClampNeg = i := by simp only [Int32.toNatClampNeg, hj]; omega
theorem own_in {j : Int32} {i n : Nat} {c : Cell} (S : c.slots.size = n) (hj : j.toInt = (i : Int)) (hi : i < n) : ¬ (j < 0 ∨ c.slots.size ≤ j.toNatClampNeg) := by
  rw [own_idx hj, S, Int32.lt_iff_toInt_lt, hj]
  simp only [Int32.toInt_zero]
  omega
theorem own_set {a : Addr} {ty : FieldType} {n i : Nat} {f : Nat → Value} {cl : Cell} {v : Value} (q1 : n < 2 ^ 31) (A : Arr Z h a cl ty) (S : cl.slots.size = n) (H : ∀ j, j < n → cl.slots[j]? = some (f j)) (W : Wr h h' a i v) (hi : i < n) : AF Z h' a ty n (own_upd f i v) := by
  refine ⟨q1, _, A.same W, by rw [sz_set]; exact S, fun j hj => ?_⟩
  simp only [Cell.setSlot, own_upd]
  by_cases q : j = i
  · subst q; rw [if_pos rfl]; simp [S, hj]
  · rw [if_neg q, Array.getElem?_setIfInBounds_ne (fun z => q z.symm)]; exact H j hj
theorem own_stI (X : Stand p l e R s m args below meth c T locs cells slots) (hx : p.tables.exec = Jvm.exec) (hZ : Z.Warmed39 s.vm) (eT : T.heap = h) {a : Addr} {n i : Nat} {f : Nat → Value} (A : AF Z h a .int n f) {j x : Int32} (hj : j.toInt = (i : Int)) (hi : i < n) {g : JFrame} (hg : g.method = m) {rest : List Value} (hs : g.stack = .int x :: .int j :: .ref a :: rest) (hd : decode c.code g.pc = .ok (.iastore, 1)) :
    ∃ T' h', Stand p l e R s m args below meth c T' (locs ++ [⟨a, i⟩]) cells slots ∧ T'.heap = h' ∧ Wr h h' a i (.int x) ∧ AF Z h' a .int n (own_upd f i (.int x)) ∧ ∀ target, Steps p.tables e below (T'.setTop { g with pc := g.pc + 1, stack := rest }) target → Steps p.tables e below (T.setTop g) target := by
  obtain ⟨q1, cl, Ar, S, H⟩ := A
  obtain ⟨T', h', X', e', W, st⟩ := stI X hx hZ eT Ar (j := j) (own_in S hj hi) hg hs hd
  rw [own_idx hj] at X' W
  exact ⟨T', h', X', e', W, own_set q1 Ar S H W hi, st⟩
theorem own_stJ (X : Stand p l e R s m args below meth c T locs cells slots) (hx : p.tables.exec = Jvm.exec) (hZ : Z.Warmed39 s.vm) (eT : T.heap = h) {a : Addr} {n i : Nat} {f : Nat → Value} (A : AF Z h a .long n f) {j : Int32} {x : Int64} (hj : j.toInt = (i : Int)) (hi : i < n) {g : JFrame} (hg : g.method = m) {rest : List Value} (hs : g.stack = .long x :: .int j :: .ref a :: rest) (hd : decode c.code g.pc = .ok (.lastore, 1)) :
    ∃ T' h', Stand p l e R s m args below meth c T' (locs ++ [⟨a, i⟩]) cells slots ∧ T'.heap = h' ∧ Wr h h' a i (.long x) ∧ AF Z h' a .long n (own_upd f i (.long x)) ∧ ∀ target, Steps p.tables e below (T'.setTop { g with pc := g.pc + 1, stack := rest }) target → Steps p.tables e below (T.setTop g) target := by
  obtain ⟨q1, cl, Ar, S, H⟩ := A
  obtain ⟨T', h', X', e', W, st⟩ := stJ X hx hZ eT Ar (j := j) (own_in S hj hi) hg hs hd
  rw [own_idx hj] at X' W
  exact ⟨T', h', X', e', W, own_set q1 Ar S H W hi, st⟩
theorem own_stB (X : Stand p l e R s m args below meth c T locs cells slots) (hx : p.tables.exec = Jvm.exec) (hZ : Z.Warmed39 s.vm) (eT : T.heap = h) {a : Addr} {n i : Nat} {f : Nat → Value} (A : AF Z h a .byte n f) {j x : Int32} (hj : j.toInt = (i : Int)) (hi : i < n) (hn : nar .byte x = x) {g : JFrame} (hg : g.method = m) {rest : List Value} (hs : g.stack = .int x :: .int j :: .ref a :: rest) (hd : decode c.code g.pc = .ok (.bastore, 1)) :
    ∃ T' h', Stand p l e R s m args below meth c T' (locs ++ [⟨a, i⟩]) cells slots ∧ T'.heap = h' ∧ Wr h h' a i (.int x) ∧ AF Z h' a .byte n (own_upd f i (.int x)) ∧ ∀ target, Steps p.tables e below (T'.setTop { g with pc := g.pc + 1, stack := rest }) target → Steps p.tables e below (T.setTop g) target := by
  obtain ⟨q1, cl, Ar, S, H⟩ := A
  obtain ⟨T', h', X', e', W, st⟩ := stB X hx hZ eT Ar (j := j) (own_in S hj hi) hg hs hd
  rw [own_idx hj] at X' W
  rw [hn] at W
  exact ⟨T', h', X', e', W, own_set q1 Ar S H W hi, st⟩
theorem own_new (X : Stand p l e R s m args below meth c T locs cells slots) (hx : p.tables.exec = Jvm.exec) (hZ : Z.Warmed39 s.vm) {a0 : Array Value} {aty : ArrayType} (w : (Cond.arrayClass (newarray.typeOf aty)).before a0 Z = true) (eT : T.heap = h) {g : JFrame} (hg : g.method = m) (hd : decode c.code g.pc = .ok (.newarray aty, 2)) {n : Int32} {rest : List Value} (hs : g.stack = .int n :: rest)
    {k : Nat} (hn : n.toInt = (k : Int)) (cap : Nat) (hcap : k ≤ cap) (hb : cap * 8 ≤ 536870912) (hc : cells + 1 ≤ R.cells) (hl : slots + cap ≤ R.slots) :
    ∃ T' h' a, Stand p l e R s m args below meth c T' locs (cells + 1) (slots + cap) ∧ T'.heap = h' ∧ Ext h h' ∧ a = h.size ∧ AF Z h' a (newarray.typeOf aty) k (fun _ => defaultValue (newarray.typeOf aty)) ∧
      ∀ target, Steps p.tables e below (T'.setTop { g with pc := g.pc + 2, stack := .ref a :: rest }) target → Steps p.tables e below (T.setTop g) target := by
  have hn0 : ¬ n < 0 := by rw [Int32.lt_iff_toInt_lt, hn]; simp only [Int32.toInt_zero]; omega
  have hk : n.toNatClampNeg = k := own_idx hn
  have hk31 : k < 2 ^ 31 := by have := n.toInt_lt; omega
  obtain ⟨T', h', cA, X', e', E, A, st⟩ := newP X hx hZ w eT hg hd hs hn0 (by rw [hk]; exact hcap) hb hc hl
  refine ⟨T', h', h.size, X', e', E, rfl, ⟨hk31, _, A, by rw [sz_new, hk], fun j hj => ?_⟩, st⟩
  simp [newA, hk, hj]
theorem own_ldI (X : Stand p l e R s m args below meth c T locs cells slots) (hx : p.tables.exec = Jvm.exec) (hZ : Z.Warmed39 s.vm) (eT : T.heap = h) {a : Addr} {n i : Nat} {f : Nat → Value} (A : AF Z h a .int n f) {j : Int32} (hj : j.toInt = (i : Int)) (hi : i < n) {g : JFrame} (hg : g.method = m) {rest : List Value} (hs : g.stack = .int j :: .ref a :: rest) (hd : decode c.code g.pc = .ok (.iaload, 1)) {v : Value} (hv : f i = v) (target : State)
    (hr : Steps p.tables e below (T.setTop { g with pc := g.pc + 1, stack := v :: rest }) target) : Steps p.tables e below (T.setTop g) target := by
  obtain ⟨-, cl, Ar, S, H⟩ := A
  exact X.iaload hx (j := j) (v := v) (by rw [eT]; exact Ar.1) (State.isArrayOf_alike hZ.alike Ar.2.1) Ar.2.2 (own_in S hj hi) (by rw [own_idx hj, ← hv]; exact H i hi) hg hs hd target hr
theorem own_ldJ (X : Stand p l e R s m args below meth c T locs cells slots) (hx : p.tables.exec = Jvm.exec) (hZ : Z.Warmed39 s.vm) (eT : T.heap = h) {a : Addr} {n i : Nat} {f : Nat → Value} (A : AF Z h a .long n f) {j : Int32} (hj : j.toInt = (i : Int)) (hi : i < n) {g : JFrame} (hg : g.method = m) {rest : List Value} (hs : g.stack = .int j :: .ref a :: rest) (hd : decode c.code g.pc = .ok (.laload, 1)) {v : Value} (hv : f i = v) (target : State)
    (hr : Steps p.tables e below (T.setTop { g with pc := g.pc + 1, stack := v :: rest }) target) : Steps p.tables e below (T.setTop g) target := by
  obtain ⟨-, cl, Ar, S, H⟩ := A
  exact X.laload hx (j := j) (v := v) (by rw [eT]; exact Ar.1) (State.isArrayOf_alike hZ.alike Ar.2.1) Ar.2.2 (own_in S hj hi) (by rw [own_idx hj, ← hv]; exact H i hi) hg hs hd target hr
theorem own_ldB (X : Stand p l e R s m args below meth c T locs cells slots) (hx : p.tables.exec = Jvm.exec) (hZ : Z.Warmed39 s.vm) (eT : T.heap = h) {a : Addr} {n i : Nat} {f : Nat → Value} (A : AF Z h a .byte n f) {j : Int32} (hj : j.toInt = (i : Int)) (hi : i < n) {g : JFrame} (hg : g.method = m) {rest : List Value} (hs : g.stack = .int j :: .ref a :: rest) (hd : decode c.code g.pc = .ok (.baload, 1)) {v : Value} (hv : f i = v) (target : State)
    (hr : Steps p.tables e below (T.setTop { g with pc := g.pc + 1, stack := v :: rest }) target) : Steps p.tables e below (T.setTop g) target := by
  obtain ⟨-, cl, Ar, S, H⟩ := A
  exact X.baloadBytes hx (j := j) (v := v) (by rw [eT]; exact Ar.1) (State.isArrayOf_alike hZ.alike Ar.2.1) Ar.2.2 (own_in S hj hi) (by rw [own_idx hj, ← hv]; exact H i hi) hg hs hd target hr
theorem own_len (X : Stand p l e R s m args below meth c T locs cells slots) (hx : p.tables.exec = Jvm.exec) (hZ : Z.Warmed39 s.vm) (eT : T.heap = h) {a : Addr} {ty : FieldType} {n : Nat} {f : Nat → Value} (A : AF Z h a ty n f) {g : JFrame} (hg : g.method = m) {rest : List Value} (hs : g.stack = .ref a :: rest) (hd : decode c.code g.pc = .ok (.arraylength, 1)) (target : State)
    (hr : Steps p.tables e below (T.setTop { g with pc := g.pc + 1, stack := .int (Int32.ofNat n) :: rest }) target) : Steps p.tables e below (T.setTop g) target := by
  obtain ⟨-, cl, Ar, S, H⟩ := A
  refine X.arraylength hx (by rw [eT]; exact Ar.1) (State.isArrayOf_alike hZ.alike Ar.2.1) hg hs hd target ?_
  rw [S]; exact hr
end OwnKit
theorem pd_1 : parseMethodDescriptor "([BII)I" = some ⟨[(.array .byte), .int, .int], some .int⟩ := by decide +kernel
theorem pd_2 : parseMethodDescriptor "([BIIIIB)Z" = some ⟨[(.array .byte), .int, .int, .int, .int, .byte], some .boolean⟩ := by decide +kernel
theorem own_iu7 (x : Int32) : (jushr x (7 : Int32)).toInt = (x.toInt % 4294967296) / 128 := c_iushr x 7 7 (by decide +kernel) (by decide)
theorem own_ushr_any (x y : Int32) (h : 0 ≤ x.toInt) : 0 ≤ (jushr x y).toInt ∧ (jushr x y).toInt ≤ x.toInt := by
  have e : (jushr x y).toBitVec = x.toBitVec >>> ((y &&& 31).toUInt32 % 32).toBitVec.toNat := rfl
  have t : (jushr x y).toBitVec.toNat = x.toBitVec.toNat / 2 ^ ((y &&& 31).toUInt32 % 32).toBitVec.toNat := by rw [e, BitVec.toNat_ushiftRight, Nat.shiftRight_eq_div_pow]
  have l : x.toBitVec.toNat / 2 ^ ((y &&& 31).toUInt32 % 32).toBitVec.toNat ≤ x.toBitVec.toNat := Nat.div_le_self _ _
  have b := x.toBitVec.isLt
  have a1 : x.toInt = if 2 * x.toBitVec.toNat < 2 ^ 32 then (x.toBitVec.toNat : Int) else (x.toBitVec.toNat : Int) - ((2 ^ 32 : Nat) : Int) := BitVec.toInt_eq_toNat_cond x.toBitVec
  have a2 : (jushr x y).toInt = if 2 * (jushr x y).toBitVec.toNat < 2 ^ 32 then ((jushr x y).toBitVec.toNat : Int) else ((jushr x y).toBitVec.toNat : Int) - ((2 ^ 32 : Nat) : Int) := BitVec.toInt_eq_toNat_cond (jushr x y).toBitVec
  rw [t] at a2
  generalize x.toBitVec.toNat / 2 ^ ((y &&& 31).toUInt32 % 32).toBitVec.toNat = d at *
  generalize x.toBitVec.toNat = n at *
  generalize x.toInt = X at *
  generalize (jushr x y).toInt = Y at *
  split at a1 <;> split at a2 <;> omega
theorem own_succ {x : Int32} {i : Nat} (h : x.toInt = (i : Int)) (hi : i + 1 < 2 ^ 31) : (x + (1 : Int32)).toInt = ((i + 1 : Nat) : Int) := by
  have a := c_iadd x 1
  have r := rng32 (x + 1)
  have e1 : (1 : Int32).toInt = 1 := by decide
  omega
theorem own_r4 (x : Int32) (h : 0 ≤ x.toInt) : jushr (jushr (jushr (jushr x (7 : Int32)) (7 : Int32)) (7 : Int32)) (7 : Int32) < (128 : Int32) := by
  have r := rng32 x
  have e : (128 : Int32).toInt = 128 := by decide
  rw [Int32.lt_iff_toInt_lt]
  simp only [own_iu7, e]
  omega
def own_wr (f : Nat → Value) (i : Nat) (p2 : Int32) : Nat → Value := (if p2 < (128 : Int32) then (own_upd f i (.int (jb p2))) else (if (jushr p2 (7 : Int32)) < (128 : Int32) then (own_upd (own_upd f i (.int (jb (p2 ||| (128 : Int32))))) (i + 1) (.int (jb (jushr p2 (7 : Int32))))) else (if (jushr (jushr p2 (7 : Int32)) (7 : Int32)) < (128 : Int32) then (own_upd (own_upd (own_upd f i (.int (jb (p2 ||| (128 : Int32))))) (i + 1) (.int (jb ((jushr p2 (7 : Int32)) ||| (128 : Int32))))) (i + 2) (.int (jb (jushr (jushr p2 (7 : Int32)) (7 : Int32))))) else (if (jushr (jushr (jushr p2 (7 : Int32)) (7 : Int32)) (7 : Int32)) < (128 : Int32) then (own_upd (own_upd (own_upd (own_upd f i (.int (jb (p2 ||| (128 : Int32))))) (i + 1) (.int (jb ((jushr p2 (7 : Int32)) ||| (128 : Int32))))) (i + 2) (.int (jb ((jushr (jushr p2 (7 : Int32)) (7 : Int32)) ||| (128 : Int32))))) (i + 3) (.int (jb (jushr (jushr (jushr p2 (7 : Int32)) (7 : Int32)) (7 : Int32))))) else (own_upd (own_upd (own_upd (own_upd (own_upd f i (.int (jb (p2 ||| (128 : Int32))))) (i + 1) (.int (jb ((jushr p2 (7 : Int32)) ||| (128 : Int32))))) (i + 2) (.int (jb ((jushr (jushr p2 (7 : Int32)) (7 : Int32)) ||| (128 : Int32))))) (i + 3) (.int (jb ((jushr (jushr (jushr p2 (7 : Int32)) (7 : Int32)) (7 : Int32)) ||| (128 : Int32))))) (i + 4) (.int (jb (jushr (jushr (jushr (jushr p2 (7 : Int32)) (7 : Int32)) (7 : Int32)) (7 : Int32)))))))))
def own_end (p1 p2 : Int32) : Int32 := (if p2 < (128 : Int32) then (p1 + (1 : Int32)) else (if (jushr p2 (7 : Int32)) < (128 : Int32) then ((p1 + (1 : Int32)) + (1 : Int32)) else (if (jushr (jushr p2 (7 : Int32)) (7 : Int32)) < (128 : Int32) then (((p1 + (1 : Int32)) + (1 : Int32)) + (1 : Int32)) else (if (jushr (jushr (jushr p2 (7 : Int32)) (7 : Int32)) (7 : Int32)) < (128 : Int32) then ((((p1 + (1 : Int32)) + (1 : Int32)) + (1 : Int32)) + (1 : Int32)) else (((((p1 + (1 : Int32)) + (1 : Int32)) + (1 : Int32)) + (1 : Int32)) + (1 : Int32))))))
theorem d1_0 : decode prog_34_method_2_code 0 = .ok (.iload_n 1, 1) := by decide +kernel
theorem d1_1 : decode prog_34_method_2_code 1 = .ok (.istore_n 3, 1) := by decide +kernel
theorem d1_2 : decode prog_34_method_2_code 2 = .ok (.iload_n 2, 1) := by decide +kernel
theorem d1_3 : decode prog_34_method_2_code 3 = .ok (.istore 4, 2) := by decide +kernel
theorem d1_5 : decode prog_34_method_2_code 5 = .ok (.iload 4, 2) := by decide +kernel
theorem d1_7 : decode prog_34_method_2_code 7 = .ok (.sipush 128, 3) := by decide +kernel
theorem d1_10 : decode prog_34_method_2_code 10 = .ok (.if_icmp .lt 26, 3) := by decide +kernel
theorem d1_13 : decode prog_34_method_2_code 13 = .ok (.aload_n 0, 1) := by decide +kernel
theorem d1_14 : decode prog_34_method_2_code 14 = .ok (.iload_n 3, 1) := by decide +kernel
theorem d1_15 : decode prog_34_method_2_code 15 = .ok (.iinc 3 1, 3) := by decide +kernel
theorem d1_18 : decode prog_34_method_2_code 18 = .ok (.iload 4, 2) := by decide +kernel
theorem d1_20 : decode prog_34_method_2_code 20 = .ok (.sipush 128, 3) := by decide +kernel
theorem d1_23 : decode prog_34_method_2_code 23 = .ok (.ior, 1) := by decide +kernel
theorem d1_24 : decode prog_34_method_2_code 24 = .ok (.i2b, 1) := by decide +kernel
theorem d1_25 : decode prog_34_method_2_code 25 = .ok (.bastore, 1) := by decide +kernel
theorem d1_26 : decode prog_34_method_2_code 26 = .ok (.iload 4, 2) := by decide +kernel
theorem d1_28 : decode prog_34_method_2_code 28 = .ok (.bipush 7, 2) := by decide +kernel
theorem d1_30 : decode prog_34_method_2_code 30 = .ok (.iushr, 1) := by decide +kernel
theorem d1_31 : decode prog_34_method_2_code 31 = .ok (.istore 4, 2) := by decide +kernel
theorem d1_33 : decode prog_34_method_2_code 33 = .ok (.goto (-28), 3) := by decide +kernel
theorem d1_36 : decode prog_34_method_2_code 36 = .ok (.aload_n 0, 1) := by decide +kernel
theorem d1_37 : decode prog_34_method_2_code 37 = .ok (.iload_n 3, 1) := by decide +kernel
theorem d1_38 : decode prog_34_method_2_code 38 = .ok (.iinc 3 1, 3) := by decide +kernel
theorem d1_41 : decode prog_34_method_2_code 41 = .ok (.iload 4, 2) := by decide +kernel
theorem d1_43 : decode prog_34_method_2_code 43 = .ok (.i2b, 1) := by decide +kernel
theorem d1_44 : decode prog_34_method_2_code 44 = .ok (.bastore, 1) := by decide +kernel
theorem d1_45 : decode prog_34_method_2_code 45 = .ok (.iload_n 3, 1) := by decide +kernel
theorem d1_46 : decode prog_34_method_2_code 46 = .ok (.ireturn, 1) := by decide +kernel
theorem pn_4 : plainName "com/example/keyspace_ledger/keyspaceledger/LengthPrefix" = true := by first | (simp [plainName, overriddenIn]; done) | decide +kernel
theorem ef_rm1 (m : MethodId) (a1 : Addr) (p1 : Int32) (p2 : Int32) : entryFrame m #[(.ref a1), (.int p1), (.int p2)] 5 = mkF m 0 #[.val (.ref a1), .val (.int p1), .val (.int p2), .unset, .unset] [] := by first | (simp [entryFrame, mkF, argsToLocals, Value.category]; done) | rfl
def Q_rm1 (Z : State) (a1 : Addr) (p1 : Int32) (p2 : Int32) (f : Nat → Value) (n : Nat) (i : Nat) (h0 : Heap) (n0 : Nat) (v : Option Value) (h : Heap) (L : List Loc) : Prop := v = some (.int (own_end p1 p2)) ∧ Fr n0 L ∧ Keep h0 h [a1] ∧ AF Z h a1 .byte n (own_wr f i p2)
set_option maxRecDepth 65536 in
set_option maxHeartbeats 40000000 in
theorem rm1 (l : Launch) (Z : State) (a0 : Array Value) (hw : ∀ d ∈ tables_1, d.before a0 Z = true) (ws : List Jvm.Cond) (a1 : Addr) (p1 : Int32) (p2 : Int32) (f : Nat → Value) (n : Nat) (i : Nat) (h0 : Heap) (n0 : Nat) (Z0 : n0 ≤ h0.size) (A0 : AF Z h0 a1 .byte n f) (g0 : n0 ≤ a1) (hj : p1.toInt = (i : Int)) (hi : i + 5 ≤ n) (hp : 0 ≤ p2.toInt) :
    MetFree l (⟨"com/example/keyspace_ledger/keyspaceledger/LengthPrefix", "write", "([BII)I"⟩ : MethodName) (head1 (Jvm.Cond.code (⟨"com/example/keyspace_ledger/keyspaceledger/LengthPrefix", "write", "([BII)I"⟩ : MethodName) prog_34_method_2_code 5 (some .int) :: ws) ({ frames := 0, cells := 0, slots := 0, locals := 0 } : Room)) (fun a U => a = #[(.ref a1), (.int p1), (.int p2)] ∧ Z.Warmed39 U.vm ∧ U.heap = h0) (fun _ _ _ _ _ => True) (fun _ U o U' => ∃ v L, o = .returned v ∧ Q_rm1 Z a1 p1 p2 f n i h0 n0 v U'.heap L ∧ FrameEnd U o U' L ({ frames := 0, cells := 0, slots := 0, locals := 0 } : Room).cells ({ frames := 0, cells := 0, slots := 0, locals := 0 } : Room).slots) := by
  refine own_body (Q := Q_rm1 Z a1 p1 p2 f n i h0 n0) (plainFor_of_name pn_4) ?_
  intro p e s m below meth c s₁ K go fin X0 hx hby hml hown hnm hret hZ e0
  have hown : s.vm.findClass "com/example/keyspace_ledger/keyspaceledger/LengthPrefix" = some m.cls := hown
  have N0 := Fr.nil n0
  have K0 : Keep h0 h0 [a1] := Keep.refl h0 _
  refine go _ (s₁.setTop (mkF m 0 #[.val (.ref a1), .val (.int p1), .val (.int p2), .unset, .unset] [])) (fun t k => castTop (ef_rm1 m a1 p1 p2) k) ?_
  have hn := A0.1
  have hj0 := hj
  have hj1 := own_succ hj0 (by omega)
  have hj2 := own_succ hj1 (by omega)
  have hj3 := own_succ hj2 (by omega)
  have hj4 := own_succ hj3 (by omega)
  refine go _ (s₁.setTop (mkF m 1 #[.val (.ref a1), .val (.int p1), .val (.int p2), .unset, .unset] [(.int p1)])) (fun t k => XS.iloadN X0.here hx rfl (hb hby d1_0) rfl k) ?_
  refine go _ (s₁.setTop (mkF m 2 #[.val (.ref a1), .val (.int p1), .val (.int p2), .val (.int p1), .unset] [])) (fun t k => XS.istoreN X0.here hx rfl (hb hby d1_1) rfl (l' := #[.val (.ref a1), .val (.int p1), .val (.int p2), .val (.int p1), .unset]) rfl k) ?_
  refine go _ (s₁.setTop (mkF m 3 #[.val (.ref a1), .val (.int p1), .val (.int p2), .val (.int p1), .unset] [(.int p2)])) (fun t k => XS.iloadN X0.here hx rfl (hb hby d1_2) rfl k) ?_
  refine go _ (s₁.setTop (mkF m 5 #[.val (.ref a1), .val (.int p1), .val (.int p2), .val (.int p1), .val (.int p2)] [])) (fun t k => XS.istore X0.here hx rfl (hb hby d1_3) rfl (l' := #[.val (.ref a1), .val (.int p1), .val (.int p2), .val (.int p1), .val (.int p2)]) rfl k) ?_
  refine go _ (s₁.setTop (mkF m 7 #[.val (.ref a1), .val (.int p1), .val (.int p2), .val (.int p1), .val (.int p2)] [(.int p2)])) (fun t k => XS.iload X0.here hx rfl (hb hby d1_5) rfl k) ?_
  refine go _ (s₁.setTop (mkF m 10 #[.val (.ref a1), .val (.int p1), .val (.int p2), .val (.int p1), .val (.int p2)] [(.int (128 : Int32)), (.int p2)])) (fun t k => XS.sipush X0.here hx rfl (hb hby d1_7) k) ?_
  by_cases hc1 : p2 < (128 : Int32)
  · refine go _ (s₁.setTop (mkF m 36 #[.val (.ref a1), .val (.int p1), .val (.int p2), .val (.int p1), .val (.int p2)] [])) (fun t k => XS.icmpYes X0.here hx rfl (pc0 := 10) (pc' := 36) rfl (hb hby d1_10) rfl (tlt hc1).1 (by decide) (by decide) k) ?_
    refine go _ (s₁.setTop (mkF m 37 #[.val (.ref a1), .val (.int p1), .val (.int p2), .val (.int p1), .val (.int p2)] [(.ref a1)])) (fun t k => XS.aloadN X0.here hx rfl (hb hby d1_36) rfl rfl k) ?_
    refine go _ (s₁.setTop (mkF m 38 #[.val (.ref a1), .val (.int p1), .val (.int p2), .val (.int p1), .val (.int p2)] [(.int p1), (.ref a1)])) (fun t k => XS.iloadN X0.here hx rfl (hb hby d1_37) rfl k) ?_
    refine go _ (s₁.setTop (mkF m 41 #[.val (.ref a1), .val (.int p1), .val (.int p2), .val (.int (p1 + (1 : Int32))), .val (.int p2)] [(.int p1), (.ref a1)])) (fun t k => XS.iinc X0.here hx rfl (hb hby d1_38) rfl (l' := #[.val (.ref a1), .val (.int p1), .val (.int p2), .val (.int (p1 + (1 : Int32))), .val (.int p2)]) rfl k) ?_
    refine go _ (s₁.setTop (mkF m 43 #[.val (.ref a1), .val (.int p1), .val (.int p2), .val (.int (p1 + (1 : Int32))), .val (.int p2)] [(.int p2), (.int p1), (.ref a1)])) (fun t k => XS.iload X0.here hx rfl (hb hby d1_41) rfl k) ?_
    refine go _ (s₁.setTop (mkF m 44 #[.val (.ref a1), .val (.int p1), .val (.int p2), .val (.int (p1 + (1 : Int32))), .val (.int p2)] [(.int (jb p2)), (.int p1), (.ref a1)])) (fun t k => XS.i2b X0.here hx rfl (hb hby d1_43) rfl k) ?_
    obtain ⟨T2, h2, X2, e2, W2, A2, st2⟩ := own_stB X0 hx hZ e0 A0 (i := i) hj0 (by omega) (own_narb p2) (g := (mkF m 44 #[.val (.ref a1), .val (.int p1), .val (.int p2), .val (.int (p1 + (1 : Int32))), .val (.int p2)] [(.int (jb p2)), (.int p1), (.ref a1)])) rfl rfl (hb hby d1_44)
    have Z3 : n0 ≤ h2.size := by rw [W2.size]; exact Z0
    have N4 := Fr.snoc X2 N0 g0
    have K5 := K0.wr W2 (Or.inl (by simp))
    refine go _ (T2.setTop (mkF m 45 #[.val (.ref a1), .val (.int p1), .val (.int p2), .val (.int (p1 + (1 : Int32))), .val (.int p2)] [])) (st2) ?_
    refine go _ (T2.setTop (mkF m 46 #[.val (.ref a1), .val (.int p1), .val (.int p2), .val (.int (p1 + (1 : Int32))), .val (.int p2)] [(.int (p1 + (1 : Int32)))])) (fun t k => XS.iloadN X2.here hx rfl (hb hby d1_45) rfl k) ?_
    exact fin (some (.int (p1 + (1 : Int32)))) X2 (by decide) (by decide) (fun q => by cases q) (show Q_rm1 Z a1 p1 p2 f n i h0 n0 _ T2.heap _ from (by rw [e2]; exact ⟨congrArg some (congrArg Value.int (show (p1 + (1 : Int32)) = own_end p1 p2 from (by unfold own_end; rw [if_pos hc1]))), N4, K5, (by unfold own_wr; rw [if_pos hc1]; exact A2)⟩)) (fun fs hr => retI X2 hx hret (hb hby d1_46) hr)
  · refine go _ (s₁.setTop (mkF m 13 #[.val (.ref a1), .val (.int p1), .val (.int p2), .val (.int p1), .val (.int p2)] [])) (fun t k => XS.icmpNo X0.here hx rfl (hb hby d1_10) rfl (flt hc1).1 k) ?_
    refine go _ (s₁.setTop (mkF m 14 #[.val (.ref a1), .val (.int p1), .val (.int p2), .val (.int p1), .val (.int p2)] [(.ref a1)])) (fun t k => XS.aloadN X0.here hx rfl (hb hby d1_13) rfl rfl k) ?_
    refine go _ (s₁.setTop (mkF m 15 #[.val (.ref a1), .val (.int p1), .val (.int p2), .val (.int p1), .val (.int p2)] [(.int p1), (.ref a1)])) (fun t k => XS.iloadN X0.here hx rfl (hb hby d1_14) rfl k) ?_
    refine go _ (s₁.setTop (mkF m 18 #[.val (.ref a1), .val (.int p1), .val (.int p2), .val (.int (p1 + (1 : Int32))), .val (.int p2)] [(.int p1), (.ref a1)])) (fun t k => XS.iinc X0.here hx rfl (hb hby d1_15) rfl (l' := #[.val (.ref a1), .val (.int p1), .val (.int p2), .val (.int (p1 + (1 : Int32))), .val (.int p2)]) rfl k) ?_
    refine go _ (s₁.setTop (mkF m 20 #[.val (.ref a1), .val (.int p1), .val (.int p2), .val (.int (p1 + (1 : Int32))), .val (.int p2)] [(.int p2), (.int p1), (.ref a1)])) (fun t k => XS.iload X0.here hx rfl (hb hby d1_18) rfl k) ?_
    refine go _ (s₁.setTop (mkF m 23 #[.val (.ref a1), .val (.int p1), .val (.int p2), .val (.int (p1 + (1 : Int32))), .val (.int p2)] [(.int (128 : Int32)), (.int p2), (.int p1), (.ref a1)])) (fun t k => XS.sipush X0.here hx rfl (hb hby d1_20) k) ?_
    refine go _ (s₁.setTop (mkF m 24 #[.val (.ref a1), .val (.int p1), .val (.int p2), .val (.int (p1 + (1 : Int32))), .val (.int p2)] [(.int (p2 ||| (128 : Int32))), (.int p1), (.ref a1)])) (fun t k => XS.ior X0.here hx rfl (hb hby d1_23) rfl k) ?_
    refine go _ (s₁.setTop (mkF m 25 #[.val (.ref a1), .val (.int p1), .val (.int p2), .val (.int (p1 + (1 : Int32))), .val (.int p2)] [(.int (jb (p2 ||| (128 : Int32)))), (.int p1), (.ref a1)])) (fun t k => XS.i2b X0.here hx rfl (hb hby d1_24) rfl k) ?_
    obtain ⟨T6, h6, X6, e6, W6, A6, st6⟩ := own_stB X0 hx hZ e0 A0 (i := i) hj0 (by omega) (own_narb (p2 ||| (128 : Int32))) (g := (mkF m 25 #[.val (.ref a1), .val (.int p1), .val (.int p2), .val (.int (p1 + (1 : Int32))), .val (.int p2)] [(.int (jb (p2 ||| (128 : Int32)))), (.int p1), (.ref a1)])) rfl rfl (hb hby d1_25)
    have Z7 : n0 ≤ h6.size := by rw [W6.size]; exact Z0
    have N8 := Fr.snoc X6 N0 g0
    have K9 := K0.wr W6 (Or.inl (by simp))
    refine go _ (T6.setTop (mkF m 26 #[.val (.ref a1), .val (.int p1), .val (.int p2), .val (.int (p1 + (1 : Int32))), .val (.int p2)] [])) (st6) ?_
    refine go _ (T6.setTop (mkF m 28 #[.val (.ref a1), .val (.int p1), .val (.int p2), .val (.int (p1 + (1 : Int32))), .val (.int p2)] [(.int p2)])) (fun t k => XS.iload X6.here hx rfl (hb hby d1_26) rfl k) ?_
    refine go _ (T6.setTop (mkF m 30 #[.val (.ref a1), .val (.int p1), .val (.int p2), .val (.int (p1 + (1 : Int32))), .val (.int p2)] [(.int (7 : Int32)), (.int p2)])) (fun t k => XS.bipush X6.here hx rfl (hb hby d1_28) k) ?_
    refine go _ (T6.setTop (mkF m 31 #[.val (.ref a1), .val (.int p1), .val (.int p2), .val (.int (p1 + (1 : Int32))), .val (.int p2)] [(.int (jushr p2 (7 : Int32)))])) (fun t k => XS.iushr X6.here hx rfl (hb hby d1_30) rfl k) ?_
    refine go _ (T6.setTop (mkF m 33 #[.val (.ref a1), .val (.int p1), .val (.int p2), .val (.int (p1 + (1 : Int32))), .val (.int (jushr p2 (7 : Int32)))] [])) (fun t k => XS.istore X6.here hx rfl (hb hby d1_31) rfl (l' := #[.val (.ref a1), .val (.int p1), .val (.int p2), .val (.int (p1 + (1 : Int32))), .val (.int (jushr p2 (7 : Int32)))]) rfl k) ?_
    refine go _ (T6.setTop (mkF m 5 #[.val (.ref a1), .val (.int p1), .val (.int p2), .val (.int (p1 + (1 : Int32))), .val (.int (jushr p2 (7 : Int32)))] [])) (fun t k => XS.goto X6.here hx rfl (pc0 := 33) (pc' := 5) rfl (hb hby d1_33) (by decide) (by decide) k) ?_
    refine go _ (T6.setTop (mkF m 7 #[.val (.ref a1), .val (.int p1), .val (.int p2), .val (.int (p1 + (1 : Int32))), .val (.int (jushr p2 (7 : Int32)))] [(.int (jushr p2 (7 : Int32)))])) (fun t k => XS.iload X6.here hx rfl (hb hby d1_5) rfl k) ?_
    refine go _ (T6.setTop (mkF m 10 #[.val (.ref a1), .val (.int p1), .val (.int p2), .val (.int (p1 + (1 : Int32))), .val (.int (jushr p2 (7 : Int32)))] [(.int (128 : Int32)), (.int (jushr p2 (7 : Int32)))])) (fun t k => XS.sipush X6.here hx rfl (hb hby d1_7) k) ?_
    by_cases hc10 : (jushr p2 (7 : Int32)) < (128 : Int32)
    · refine go _ (T6.setTop (mkF m 36 #[.val (.ref a1), .val (.int p1), .val (.int p2), .val (.int (p1 + (1 : Int32))), .val (.int (jushr p2 (7 : Int32)))] [])) (fun t k => XS.icmpYes X6.here hx rfl (pc0 := 10) (pc' := 36) rfl (hb hby d1_10) rfl (tlt hc10).1 (by decide) (by decide) k) ?_
      refine go _ (T6.setTop (mkF m 37 #[.val (.ref a1), .val (.int p1), .val (.int p2), .val (.int (p1 + (1 : Int32))), .val (.int (jushr p2 (7 : Int32)))] [(.ref a1)])) (fun t k => XS.aloadN X6.here hx rfl (hb hby d1_36) rfl rfl k) ?_
      refine go _ (T6.setTop (mkF m 38 #[.val (.ref a1), .val (.int p1), .val (.int p2), .val (.int (p1 + (1 : Int32))), .val (.int (jushr p2 (7 : Int32)))] [(.int (p1 + (1 : Int32))), (.ref a1)])) (fun t k => XS.iloadN X6.here hx rfl (hb hby d1_37) rfl k) ?_
      refine go _ (T6.setTop (mkF m 41 #[.val (.ref a1), .val (.int p1), .val (.int p2), .val (.int ((p1 + (1 : Int32)) + (1 : Int32))), .val (.int (jushr p2 (7 : Int32)))] [(.int (p1 + (1 : Int32))), (.ref a1)])) (fun t k => XS.iinc X6.here hx rfl (hb hby d1_38) rfl (l' := #[.val (.ref a1), .val (.int p1), .val (.int p2), .val (.int ((p1 + (1 : Int32)) + (1 : Int32))), .val (.int (jushr p2 (7 : Int32)))]) rfl k) ?_
      refine go _ (T6.setTop (mkF m 43 #[.val (.ref a1), .val (.int p1), .val (.int p2), .val (.int ((p1 + (1 : Int32)) + (1 : Int32))), .val (.int (jushr p2 (7 : Int32)))] [(.int (jushr p2 (7 : Int32))), (.int (p1 + (1 : Int32))), (.ref a1)])) (fun t k => XS.iload X6.here hx rfl (hb hby d1_41) rfl k) ?_
      refine go _ (T6.setTop (mkF m 44 #[.val (.ref a1), .val (.int p1), .val (.int p2), .val (.int ((p1 + (1 : Int32)) + (1 : Int32))), .val (.int (jushr p2 (7 : Int32)))] [(.int (jb (jushr p2 (7 : Int32)))), (.int (p1 + (1 : Int32))), (.ref a1)])) (fun t k => XS.i2b X6.here hx rfl (hb hby d1_43) rfl k) ?_
      obtain ⟨T11, h11, X11, e11, W11, A11, st11⟩ := own_stB X6 hx hZ e6 A6 (i := (i + 1)) hj1 (by omega) (own_narb (jushr p2 (7 : Int32))) (g := (mkF m 44 #[.val (.ref a1), .val (.int p1), .val (.int p2), .val (.int ((p1 + (1 : Int32)) + (1 : Int32))), .val (.int (jushr p2 (7 : Int32)))] [(.int (jb (jushr p2 (7 : Int32)))), (.int (p1 + (1 : Int32))), (.ref a1)])) rfl rfl (hb hby d1_44)
      have Z12 : n0 ≤ h11.size := by rw [W11.size]; exact Z7
      have N13 := Fr.snoc X11 N8 g0
      have K14 := K9.wr W11 (Or.inl (by simp))
      refine go _ (T11.setTop (mkF m 45 #[.val (.ref a1), .val (.int p1), .val (.int p2), .val (.int ((p1 + (1 : Int32)) + (1 : Int32))), .val (.int (jushr p2 (7 : Int32)))] [])) (st11) ?_
      refine go _ (T11.setTop (mkF m 46 #[.val (.ref a1), .val (.int p1), .val (.int p2), .val (.int ((p1 + (1 : Int32)) + (1 : Int32))), .val (.int (jushr p2 (7 : Int32)))] [(.int ((p1 + (1 : Int32)) + (1 : Int32)))])) (fun t k => XS.iloadN X11.here hx rfl (hb hby d1_45) rfl k) ?_
      exact fin (some (.int ((p1 + (1 : Int32)) + (1 : Int32)))) X11 (by decide) (by decide) (fun q => by cases q) (show Q_rm1 Z a1 p1 p2 f n i h0 n0 _ T11.heap _ from (by rw [e11]; exact ⟨congrArg some (congrArg Value.int (show ((p1 + (1 : Int32)) + (1 : Int32)) = own_end p1 p2 from (by unfold own_end; rw [if_neg hc1, if_pos hc10]))), N13, K14, (by unfold own_wr; rw [if_neg hc1, if_pos hc10]; exact A11)⟩)) (fun fs hr => retI X11 hx hret (hb hby d1_46) hr)
    · refine go _ (T6.setTop (mkF m 13 #[.val (.ref a1), .val (.int p1), .val (.int p2), .val (.int (p1 + (1 : Int32))), .val (.int (jushr p2 (7 : Int32)))] [])) (fun t k => XS.icmpNo X6.here hx rfl (hb hby d1_10) rfl (flt hc10).1 k) ?_
      refine go _ (T6.setTop (mkF m 14 #[.val (.ref a1), .val (.int p1), .val (.int p2), .val (.int (p1 + (1 : Int32))), .val (.int (jushr p2 (7 : Int32)))] [(.ref a1)])) (fun t k => XS.aloadN X6.here hx rfl (hb hby d1_13) rfl rfl k) ?_
      refine go _ (T6.setTop (mkF m 15 #[.val (.ref a1), .val (.int p1), .val (.int p2), .val (.int (p1 + (1 : Int32))), .val (.int (jushr p2 (7 : Int32)))] [(.int (p1 + (1 : Int32))), (.ref a1)])) (fun t k => XS.iloadN X6.here hx rfl (hb hby d1_14) rfl k) ?_
      refine go _ (T6.setTop (mkF m 18 #[.val (.ref a1), .val (.int p1), .val (.int p2), .val (.int ((p1 + (1 : Int32)) + (1 : Int32))), .val (.int (jushr p2 (7 : Int32)))] [(.int (p1 + (1 : Int32))), (.ref a1)])) (fun t k => XS.iinc X6.here hx rfl (hb hby d1_15) rfl (l' := #[.val (.ref a1), .val (.int p1), .val (.int p2), .val (.int ((p1 + (1 : Int32)) + (1 : Int32))), .val (.int (jushr p2 (7 : Int32)))]) rfl k) ?_
      refine go _ (T6.setTop (mkF m 20 #[.val (.ref a1), .val (.int p1), .val (.int p2), .val (.int ((p1 + (1 : Int32)) + (1 : Int32))), .val (.int (jushr p2 (7 : Int32)))] [(.int (jushr p2 (7 : Int32))), (.int (p1 + (1 : Int32))), (.ref a1)])) (fun t k => XS.iload X6.here hx rfl (hb hby d1_18) rfl k) ?_
      refine go _ (T6.setTop (mkF m 23 #[.val (.ref a1), .val (.int p1), .val (.int p2), .val (.int ((p1 + (1 : Int32)) + (1 : Int32))), .val (.int (jushr p2 (7 : Int32)))] [(.int (128 : Int32)), (.int (jushr p2 (7 : Int32))), (.int (p1 + (1 : Int32))), (.ref a1)])) (fun t k => XS.sipush X6.here hx rfl (hb hby d1_20) k) ?_
      refine go _ (T6.setTop (mkF m 24 #[.val (.ref a1), .val (.int p1), .val (.int p2), .val (.int ((p1 + (1 : Int32)) + (1 : Int32))), .val (.int (jushr p2 (7 : Int32)))] [(.int ((jushr p2 (7 : Int32)) ||| (128 : Int32))), (.int (p1 + (1 : Int32))), (.ref a1)])) (fun t k => XS.ior X6.here hx rfl (hb hby d1_23) rfl k) ?_
      refine go _ (T6.setTop (mkF m 25 #[.val (.ref a1), .val (.int p1), .val (.int p2), .val (.int ((p1 + (1 : Int32)) + (1 : Int32))), .val (.int (jushr p2 (7 : Int32)))] [(.int (jb ((jushr p2 (7 : Int32)) ||| (128 : Int32)))), (.int (p1 + (1 : Int32))), (.ref a1)])) (fun t k => XS.i2b X6.here hx rfl (hb hby d1_24) rfl k) ?_
      obtain ⟨T15, h15, X15, e15, W15, A15, st15⟩ := own_stB X6 hx hZ e6 A6 (i := (i + 1)) hj1 (by omega) (own_narb ((jushr p2 (7 : Int32)) ||| (128 : Int32))) (g := (mkF m 25 #[.val (.ref a1), .val (.int p1), .val (.int p2), .val (.int ((p1 + (1 : Int32)) + (1 : Int32))), .val (.int (jushr p2 (7 : Int32)))] [(.int (jb ((jushr p2 (7 : Int32)) ||| (128 : Int32)))), (.int (p1 + (1 : Int32))), (.ref a1)])) rfl rfl (hb hby d1_25)
      have Z16 : n0 ≤ h15.size := by rw [W15.size]; exact Z7
      have N17 := Fr.snoc X15 N8 g0
      have K18 := K9.wr W15 (Or.inl (by simp))
      refine go _ (T15.setTop (mkF m 26 #[.val (.ref a1), .val (.int p1), .val (.int p2), .val (.int ((p1 + (1 : Int32)) + (1 : Int32))), .val (.int (jushr p2 (7 : Int32)))] [])) (st15) ?_
      refine go _ (T15.setTop (mkF m 28 #[.val (.ref a1), .val (.int p1), .val (.int p2), .val (.int ((p1 + (1 : Int32)) + (1 : Int32))), .val (.int (jushr p2 (7 : Int32)))] [(.int (jushr p2 (7 : Int32)))])) (fun t k => XS.iload X15.here hx rfl (hb hby d1_26) rfl k) ?_
      refine go _ (T15.setTop (mkF m 30 #[.val (.ref a1), .val (.int p1), .val (.int p2), .val (.int ((p1 + (1 : Int32)) + (1 : Int32))), .val (.int (jushr p2 (7 : Int32)))] [(.int (7 : Int32)), (.int (jushr p2 (7 : Int32)))])) (fun t k => XS.bipush X15.here hx rfl (hb hby d1_28) k) ?_
      refine go _ (T15.setTop (mkF m 31 #[.val (.ref a1), .val (.int p1), .val (.int p2), .val (.int ((p1 + (1 : Int32)) + (1 : Int32))), .val (.int (jushr p2 (7 : Int32)))] [(.int (jushr (jushr p2 (7 : Int32)) (7 : Int32)))])) (fun t k => XS.iushr X15.here hx rfl (hb hby d1_30) rfl k) ?_
      refine go _ (T15.setTop (mkF m 33 #[.val (.ref a1), .val (.int p1), .val (.int p2), .val (.int ((p1 + (1 : Int32)) + (1 : Int32))), .val (.int (jushr (jushr p2 (7 : Int32)) (7 : Int32)))] [])) (fun t k => XS.istore X15.here hx rfl (hb hby d1_31) rfl (l' := #[.val (.ref a1), .val (.int p1), .val (.int p2), .val (.int ((p1 + (1 : Int32)) + (1 : Int32))), .val (.int (jushr (jushr p2 (7 : Int32)) (7 : Int32)))]) rfl k) ?_
      refine go _ (T15.setTop (mkF m 5 #[.val (.ref a1), .val (.int p1), .val (.int p2), .val (.int ((p1 + (1 : Int32)) + (1 : Int32))), .val (.int (jushr (jushr p2 (7 : Int32)) (7 : Int32)))] [])) (fun t k => XS.goto X15.here hx rfl (pc0 := 33) (pc' := 5) rfl (hb hby d1_33) (by decide) (by decide) k) ?_
      refine go _ (T15.setTop (mkF m 7 #[.val (.ref a1), .val (.int p1), .val (.int p2), .val (.int ((p1 + (1 : Int32)) + (1 : Int32))), .val (.int (jushr (jushr p2 (7 : Int32)) (7 : Int32)))] [(.int (jushr (jushr p2 (7 : Int32)) (7 : Int32)))])) (fun t k => XS.iload X15.here hx rfl (hb hby d1_5) rfl k) ?_
      refine go _ (T15.setTop (mkF m 10 #[.val (.ref a1), .val (.int p1), .val (.int p2), .val (.int ((p1 + (1 : Int32)) + (1 : Int32))), .val (.int (jushr (jushr p2 (7 : Int32)) (7 : Int32)))] [(.int (128 : Int32)), (.int (jushr (jushr p2 (7 : Int32)) (7 : Int32)))])) (fun t k => XS.sipush X15.here hx rfl (hb hby d1_7) k) ?_
      by_cases hc19 : (jushr (jushr p2 (7 : Int32)) (7 : Int32)) < (128 : Int32)
      · refine go _ (T15.setTop (mkF m 36 #[.val (.ref a1), .val (.int p1), .val (.int p2), .val (.int ((p1 + (1 : Int32)) + (1 : Int32))), .val (.int (jushr (jushr p2 (7 : Int32)) (7 : Int32)))] [])) (fun t k => XS.icmpYes X15.here hx rfl (pc0 := 10) (pc' := 36) rfl (hb hby d1_10) rfl (tlt hc19).1 (by decide) (by decide) k) ?_
        refine go _ (T15.setTop (mkF m 37 #[.val (.ref a1), .val (.int p1), .val (.int p2), .val (.int ((p1 + (1 : Int32)) + (1 : Int32))), .val (.int (jushr (jushr p2 (7 : Int32)) (7 : Int32)))] [(.ref a1)])) (fun t k => XS.aloadN X15.here hx rfl (hb hby d1_36) rfl rfl k) ?_
        refine go _ (T15.setTop (mkF m 38 #[.val (.ref a1), .val (.int p1), .val (.int p2), .val (.int ((p1 + (1 : Int32)) + (1 : Int32))), .val (.int (jushr (jushr p2 (7 : Int32)) (7 : Int32)))] [(.int ((p1 + (1 : Int32)) + (1 : Int32))), (.ref a1)])) (fun t k => XS.iloadN X15.here hx rfl (hb hby d1_37) rfl k) ?_
        refine go _ (T15.setTop (mkF m 41 #[.val (.ref a1), .val (.int p1), .val (.int p2), .val (.int (((p1 + (1 : Int32)) + (1 : Int32)) + (1 : Int32))), .val (.int (jushr (jushr p2 (7 : Int32)) (7 : Int32)))] [(.int ((p1 + (1 : Int32)) + (1 : Int32))), (.ref a1)])) (fun t k => XS.iinc X15.here hx rfl (hb hby d1_38) rfl (l' := #[.val (.ref a1), .val (.int p1), .val (.int p2), .val (.int (((p1 + (1 : Int32)) + (1 : Int32)) + (1 : Int32))), .val (.int (jushr (jushr p2 (7 : Int32)) (7 : Int32)))]) rfl k) ?_
        refine go _ (T15.setTop (mkF m 43 #[.val (.ref a1), .val (.int p1), .val (.int p2), .val (.int (((p1 + (1 : Int32)) + (1 : Int32)) + (1 : Int32))), .val (.int (jushr (jushr p2 (7 : Int32)) (7 : Int32)))] [(.int (jushr (jushr p2 (7 : Int32)) (7 : Int32))), (.int ((p1 + (1 : Int32)) + (1 : Int32))), (.ref a1)])) (fun t k => XS.iload X15.here hx rfl (hb hby d1_41) rfl k) ?_
        refine go _ (T15.setTop (mkF m 44 #[.val (.ref a1), .val (.int p1), .val (.int p2), .val (.int (((p1 + (1 : Int32)) + (1 : Int32)) + (1 : Int32))), .val (.int (jushr (jushr p2 (7 : Int32)) (7 : Int32)))] [(.int (jb (jushr (jushr p2 (7 : Int32)) (7 : Int32)))), (.int ((p1 + (1 : Int32)) + (1 : Int32))), (.ref a1)])) (fun t k => XS.i2b X15.here hx rfl (hb hby d1_43) rfl k) ?_
        obtain ⟨T20, h20, X20, e20, W20, A20, st20⟩ := own_stB X15 hx hZ e15 A15 (i := (i + 2)) hj2 (by omega) (own_narb (jushr (jushr p2 (7 : Int32)) (7 : Int32))) (g := (mkF m 44 #[.val (.ref a1), .val (.int p1), .val (.int p2), .val (.int (((p1 + (1 : Int32)) + (1 : Int32)) + (1 : Int32))), .val (.int (jushr (jushr p2 (7 : Int32)) (7 : Int32)))] [(.int (jb (jushr (jushr p2 (7 : Int32)) (7 : Int32)))), (.int ((p1 + (1 : Int32)) + (1 : Int32))), (.ref a1)])) rfl rfl (hb hby d1_44)
        have Z21 : n0 ≤ h20.size := by rw [W20.size]; exact Z16
        have N22 := Fr.snoc X20 N17 g0
        have K23 := K18.wr W20 (Or.inl (by simp))
        refine go _ (T20.setTop (mkF m 45 #[.val (.ref a1), .val (.int p1), .val (.int p2), .val (.int (((p1 + (1 : Int32)) + (1 : Int32)) + (1 : Int32))), .val (.int (jushr (jushr p2 (7 : Int32)) (7 : Int32)))] [])) (st20) ?_
        refine go _ (T20.setTop (mkF m 46 #[.val (.ref a1), .val (.int p1), .val (.int p2), .val (.int (((p1 + (1 : Int32)) + (1 : Int32)) + (1 : Int32))), .val (.int (jushr (jushr p2 (7 : Int32)) (7 : Int32)))] [(.int (((p1 + (1 : Int32)) + (1 : Int32)) + (1 : Int32)))])) (fun t k => XS.iloadN X20.here hx rfl (hb hby d1_45) rfl k) ?_
        exact fin (some (.int (((p1 + (1 : Int32)) + (1 : Int32)) + (1 : Int32)))) X20 (by decide) (by decide) (fun q => by cases q) (show Q_rm1 Z a1 p1 p2 f n i h0 n0 _ T20.heap _ from (by rw [e20]; exact ⟨congrArg some (congrArg Value.int (show (((p1 + (1 : Int32)) + (1 : Int32)) + (1 : Int32)) = own_end p1 p2 from (by unfold own_end; rw [if_neg hc1, if_neg hc10, if_pos hc19]))), N22, K23, (by unfold own_wr; rw [if_neg hc1, if_neg hc10, if_pos hc19]; exact A20)⟩)) (fun fs hr => retI X20 hx hret (hb hby d1_46) hr)
      · refine go _ (T15.setTop (mkF m 13 #[.val (.ref a1), .val (.int p1), .val (.int p2), .val (.int ((p1 + (1 : Int32)) + (1 : Int32))), .val (.int (jushr (jushr p2 (7 : Int32)) (7 : Int32)))] [])) (fun t k => XS.icmpNo X15.here hx rfl (hb hby d1_10) rfl (flt hc19).1 k) ?_
        refine go _ (T15.setTop (mkF m 14 #[.val (.ref a1), .val (.int p1), .val (.int p2), .val (.int ((p1 + (1 : Int32)) + (1 : Int32))), .val (.int (jushr (jushr p2 (7 : Int32)) (7 : Int32)))] [(.ref a1)])) (fun t k => XS.aloadN X15.here hx rfl (hb hby d1_13) rfl rfl k) ?_
        refine go _ (T15.setTop (mkF m 15 #[.val (.ref a1), .val (.int p1), .val (.int p2), .val (.int ((p1 + (1 : Int32)) + (1 : Int32))), .val (.int (jushr (jushr p2 (7 : Int32)) (7 : Int32)))] [(.int ((p1 + (1 : Int32)) + (1 : Int32))), (.ref a1)])) (fun t k => XS.iloadN X15.here hx rfl (hb hby d1_14) rfl k) ?_
        refine go _ (T15.setTop (mkF m 18 #[.val (.ref a1), .val (.int p1), .val (.int p2), .val (.int (((p1 + (1 : Int32)) + (1 : Int32)) + (1 : Int32))), .val (.int (jushr (jushr p2 (7 : Int32)) (7 : Int32)))] [(.int ((p1 + (1 : Int32)) + (1 : Int32))), (.ref a1)])) (fun t k => XS.iinc X15.here hx rfl (hb hby d1_15) rfl (l' := #[.val (.ref a1), .val (.int p1), .val (.int p2), .val (.int (((p1 + (1 : Int32)) + (1 : Int32)) + (1 : Int32))), .val (.int (jushr (jushr p2 (7 : Int32)) (7 : Int32)))]) rfl k) ?_
        refine go _ (T15.setTop (mkF m 20 #[.val (.ref a1), .val (.int p1), .val (.int p2), .val (.int (((p1 + (1 : Int32)) + (1 : Int32)) + (1 : Int32))), .val (.int (jushr (jushr p2 (7 : Int32)) (7 : Int32)))] [(.int (jushr (jushr p2 (7 : Int32)) (7 : Int32))), (.int ((p1 + (1 : Int32)) + (1 : Int32))), (.ref a1)])) (fun t k => XS.iload X15.here hx rfl (hb hby d1_18) rfl k) ?_
        refine go _ (T15.setTop (mkF m 23 #[.val (.ref a1), .val (.int p1), .val (.int p2), .val (.int (((p1 + (1 : Int32)) + (1 : Int32)) + (1 : Int32))), .val (.int (jushr (jushr p2 (7 : Int32)) (7 : Int32)))] [(.int (128 : Int32)), (.int (jushr (jushr p2 (7 : Int32)) (7 : Int32))), (.int ((p1 + (1 : Int32)) + (1 : Int32))), (.ref a1)])) (fun t k => XS.sipush X15.here hx rfl (hb hby d1_20) k) ?_
        refine go _ (T15.setTop (mkF m 24 #[.val (.ref a1), .val (.int p1), .val (.int p2), .val (.int (((p1 + (1 : Int32)) + (1 : Int32)) + (1 : Int32))), .val (.int (jushr (jushr p2 (7 : Int32)) (7 : Int32)))] [(.int ((jushr (jushr p2 (7 : Int32)) (7 : Int32)) ||| (128 : Int32))), (.int ((p1 + (1 : Int32)) + (1 : Int32))), (.ref a1)])) (fun t k => XS.ior X15.here hx rfl (hb hby d1_23) rfl k) ?_
        refine go _ (T15.setTop (mkF m 25 #[.val (.ref a1), .val (.int p1), .val (.int p2), .val (.int (((p1 + (1 : Int32)) + (1 : Int32)) + (1 : Int32))), .val (.int (jushr (jushr p2 (7 : Int32)) (7 : Int32)))] [(.int (jb ((jushr (jushr p2 (7 : Int32)) (7 : Int32)) ||| (128 : Int32)))), (.int ((p1 + (1 : Int32)) + (1 : Int32))), (.ref a1)])) (fun t k => XS.i2b X15.here hx rfl (hb hby d1_24) rfl k) ?_
        obtain ⟨T24, h24, X24, e24, W24, A24, st24⟩ := own_stB X15 hx hZ e15 A15 (i := (i + 2)) hj2 (by omega) (own_narb ((jushr (jushr p2 (7 : Int32)) (7 : Int32)) ||| (128 : Int32))) (g := (mkF m 25 #[.val (.ref a1), .val (.int p1), .val (.int p2), .val (.int (((p1 + (1 : Int32)) + (1 : Int32)) + (1 : Int32))), .val (.int (jushr (jushr p2 (7 : Int32)) (7 : Int32)))] [(.int (jb ((jushr (jushr p2 (7 : Int32)) (7 : Int32)) ||| (128 : Int32)))), (.int ((p1 + (1 : Int32)) + (1 : Int32))), (.ref a1)])) rfl rfl (hb hby d1_25)
        have Z25 : n0 ≤ h24.size := by rw [W24.size]; exact Z16
        have N26 := Fr.snoc X24 N17 g0
        have K27 := K18.wr W24 (Or.inl (by simp))
        refine go _ (T24.setTop (mkF m 26 #[.val (.ref a1), .val (.int p1), .val (.int p2), .val (.int (((p1 + (1 : Int32)) + (1 : Int32)) + (1 : Int32))), .val (.int (jushr (jushr p2 (7 : Int32)) (7 : Int32)))] [])) (st24) ?_
        refine go _ (T24.setTop (mkF m 28 #[.val (.ref a1), .val (.int p1), .val (.int p2), .val (.int (((p1 + (1 : Int32)) + (1 : Int32)) + (1 : Int32))), .val (.int (jushr (jushr p2 (7 : Int32)) (7 : Int32)))] [(.int (jushr (jushr p2 (7 : Int32)) (7 : Int32)))])) (fun t k => XS.iload X24.here hx rfl (hb hby d1_26) rfl k) ?_
        refine go _ (T24.setTop (mkF m 30 #[.val (.ref a1), .val (.int p1), .val (.int p2), .val (.int (((p1 + (1 : Int32)) + (1 : Int32)) + (1 : Int32))), .val (.int (jushr (jushr p2 (7 : Int32)) (7 : Int32)))] [(.int (7 : Int32)), (.int (jushr (jushr p2 (7 : Int32)) (7 : Int32)))])) (fun t k => XS.bipush X24.here hx rfl (hb hby d1_28) k) ?_
        refine go _ (T24.setTop (mkF m 31 #[.val (.ref a1), .val (.int p1), .val (.int p2), .val (.int (((p1 + (1 : Int32)) + (1 : Int32)) + (1 : Int32))), .val (.int (jushr (jushr p2 (7 : Int32)) (7 : Int32)))] [(.int (jushr (jushr (jushr p2 (7 : Int32)) (7 : Int32)) (7 : Int32)))])) (fun t k => XS.iushr X24.here hx rfl (hb hby d1_30) rfl k) ?_
        refine go _ (T24.setTop (mkF m 33 #[.val (.ref a1), .val (.int p1), .val (.int p2), .val (.int (((p1 + (1 : Int32)) + (1 : Int32)) + (1 : Int32))), .val (.int (jushr (jushr (jushr p2 (7 : Int32)) (7 : Int32)) (7 : Int32)))] [])) (fun t k => XS.istore X24.here hx rfl (hb hby d1_31) rfl (l' := #[.val (.ref a1), .val (.int p1), .val (.int p2), .val (.int (((p1 + (1 : Int32)) + (1 : Int32)) + (1 : Int32))), .val (.int (jushr (jushr (jushr p2 (7 : Int32)) (7 : Int32)) (7 : Int32)))]) rfl k) ?_
        refine go _ (T24.setTop (mkF m 5 #[.val (.ref a1), .val (.int p1), .val (.int p2), .val (.int (((p1 + (1 : Int32)) + (1 : Int32)) + (1 : Int32))), .val (.int (jushr (jushr (jushr p2 (7 : Int32)) (7 : Int32)) (7 : Int32)))] [])) (fun t k => XS.goto X24.here hx rfl (pc0 := 33) (pc' := 5) rfl (hb hby d1_33) (by decide) (by decide) k) ?_
        refine go _ (T24.setTop (mkF m 7 #[.val (.ref a1), .val (.int p1), .val (.int p2), .val (.int (((p1 + (1 : Int32)) + (1 : Int32)) + (1 : Int32))), .val (.int (jushr (jushr (jushr p2 (7 : Int32)) (7 : Int32)) (7 : Int32)))] [(.int (jushr (jushr (jushr p2 (7 : Int32)) (7 : Int32)) (7 : Int32)))])) (fun t k => XS.iload X24.here hx rfl (hb hby d1_5) rfl k) ?_
        refine go _ (T24.setTop (mkF m 10 #[.val (.ref a1), .val (.int p1), .val (.int p2), .val (.int (((p1 + (1 : Int32)) + (1 : Int32)) + (1 : Int32))), .val (.int (jushr (jushr (jushr p2 (7 : Int32)) (7 : Int32)) (7 : Int32)))] [(.int (128 : Int32)), (.int (jushr (jushr (jushr p2 (7 : Int32)) (7 : Int32)) (7 : Int32)))])) (fun t k => XS.sipush X24.here hx rfl (hb hby d1_7) k) ?_
        by_cases hc28 : (jushr (jushr (jushr p2 (7 : Int32)) (7 : Int32)) (7 : Int32)) < (128 : Int32)
        · refine go _ (T24.setTop (mkF m 36 #[.val (.ref a1), .val (.int p1), .val (.int p2), .val (.int (((p1 + (1 : Int32)) + (1 : Int32)) + (1 : Int32))), .val (.int (jushr (jushr (jushr p2 (7 : Int32)) (7 : Int32)) (7 : Int32)))] [])) (fun t k => XS.icmpYes X24.here hx rfl (pc0 := 10) (pc' := 36) rfl (hb hby d1_10) rfl (tlt hc28).1 (by decide) (by decide) k) ?_
          refine go _ (T24.setTop (mkF m 37 #[.val (.ref a1), .val (.int p1), .val (.int p2), .val (.int (((p1 + (1 : Int32)) + (1 : Int32)) + (1 : Int32))), .val (.int (jushr (jushr (jushr p2 (7 : Int32)) (7 : Int32)) (7 : Int32)))] [(.ref a1)])) (fun t k => XS.aloadN X24.here hx rfl (hb hby d1_36) rfl rfl k) ?_
          refine go _ (T24.setTop (mkF m 38 #[.val (.ref a1), .val (.int p1), .val (.int p2), .val (.int (((p1 + (1 : Int32)) + (1 : Int32)) + (1 : Int32))), .val (.int (jushr (jushr (jushr p2 (7 : Int32)) (7 : Int32)) (7 : Int32)))] [(.int (((p1 + (1 : Int32)) + (1 : Int32)) + (1 : Int32))), (.ref a1)])) (fun t k => XS.iloadN X24.here hx rfl (hb hby d1_37) rfl k) ?_
          refine go _ (T24.setTop (mkF m 41 #[.val (.ref a1), .val (.int p1), .val (.int p2), .val (.int ((((p1 + (1 : Int32)) + (1 : Int32)) + (1 : Int32)) + (1 : Int32))), .val (.int (jushr (jushr (jushr p2 (7 : Int32)) (7 : Int32)) (7 : Int32)))] [(.int (((p1 + (1 : Int32)) + (1 : Int32)) + (1 : Int32))), (.ref a1)])) (fun t k => XS.iinc X24.here hx rfl (hb hby d1_38) rfl (l' := #[.val (.ref a1), .val (.int p1), .val (.int p2), .val (.int ((((p1 + (1 : Int32)) + (1 : Int32)) + (1 : Int32)) + (1 : Int32))), .val (.int (jushr (jushr (jushr p2 (7 : Int32)) (7 : Int32)) (7 : Int32)))]) rfl k) ?_
          refine go _ (T24.setTop (mkF m 43 #[.val (.ref a1), .val (.int p1), .val (.int p2), .val (.int ((((p1 + (1 : Int32)) + (1 : Int32)) + (1 : Int32)) + (1 : Int32))), .val (.int (jushr (jushr (jushr p2 (7 : Int32)) (7 : Int32)) (7 : Int32)))] [(.int (jushr (jushr (jushr p2 (7 : Int32)) (7 : Int32)) (7 : Int32))), (.int (((p1 + (1 : Int32)) + (1 : Int32)) + (1 : Int32))), (.ref a1)])) (fun t k => XS.iload X24.here hx rfl (hb hby d1_41) rfl k) ?_
          refine go _ (T24.setTop (mkF m 44 #[.val (.ref a1), .val (.int p1), .val (.int p2), .val (.int ((((p1 + (1 : Int32)) + (1 : Int32)) + (1 : Int32)) + (1 : Int32))), .val (.int (jushr (jushr (jushr p2 (7 : Int32)) (7 : Int32)) (7 : Int32)))] [(.int (jb (jushr (jushr (jushr p2 (7 : Int32)) (7 : Int32)) (7 : Int32)))), (.int (((p1 + (1 : Int32)) + (1 : Int32)) + (1 : Int32))), (.ref a1)])) (fun t k => XS.i2b X24.here hx rfl (hb hby d1_43) rfl k) ?_
          obtain ⟨T29, h29, X29, e29, W29, A29, st29⟩ := own_stB X24 hx hZ e24 A24 (i := (i + 3)) hj3 (by omega) (own_narb (jushr (jushr (jushr p2 (7 : Int32)) (7 : Int32)) (7 : Int32))) (g := (mkF m 44 #[.val (.ref a1), .val (.int p1), .val (.int p2), .val (.int ((((p1 + (1 : Int32)) + (1 : Int32)) + (1 : Int32)) + (1 : Int32))), .val (.int (jushr (jushr (jushr p2 (7 : Int32)) (7 : Int32)) (7 : Int32)))] [(.int (jb (jushr (jushr (jushr p2 (7 : Int32)) (7 : Int32)) (7 : Int32)))), (.int (((p1 + (1 : Int32)) + (1 : Int32)) + (1 : Int32))), (.ref a1)])) rfl rfl (hb hby d1_44)
          have Z30 : n0 ≤ h29.size := by rw [W29.size]; exact Z25
          have N31 := Fr.snoc X29 N26 g0
          have K32 := K27.wr W29 (Or.inl (by simp))
          refine go _ (T29.setTop (mkF m 45 #[.val (.ref a1), .val (.int p1), .val (.int p2), .val (.int ((((p1 + (1 : Int32)) + (1 : Int32)) + (1 : Int32)) + (1 : Int32))), .val (.int (jushr (jushr (jushr p2 (7 : Int32)) (7 : Int32)) (7 : Int32)))] [])) (st29) ?_
          refine go _ (T29.setTop (mkF m 46 #[.val (.ref a1), .val (.int p1), .val (.int p2), .val (.int ((((p1 + (1 : Int32)) + (1 : Int32)) + (1 : Int32)) + (1 : Int32))), .val (.int (jushr (jushr (jushr p2 (7 : Int32)) (7 : Int32)) (7 : Int32)))] [(.int ((((p1 + (1 : Int32)) + (1 : Int32)) + (1 : Int32)) + (1 : Int32)))])) (fun t k => XS.iloadN X29.here hx rfl (hb hby d1_45) rfl k) ?_
          exact fin (some (.int ((((p1 + (1 : Int32)) + (1 : Int32)) + (1 : Int32)) + (1 : Int32)))) X29 (by decide) (by decide) (fun q => by cases q) (show Q_rm1 Z a1 p1 p2 f n i h0 n0 _ T29.heap _ from (by rw [e29]; exact ⟨congrArg some (congrArg Value.int (show ((((p1 + (1 : Int32)) + (1 : Int32)) + (1 : Int32)) + (1 : Int32)) = own_end p1 p2 from (by unfold own_end; rw [if_neg hc1, if_neg hc10, if_neg hc19, if_pos hc28]))), N31, K32, (by unfold own_wr; rw [if_neg hc1, if_neg hc10, if_neg hc19, if_pos hc28]; exact A29)⟩)) (fun fs hr => retI X29 hx hret (hb hby d1_46) hr)
        · refine go _ (T24.setTop (mkF m 13 #[.val (.ref a1), .val (.int p1), .val (.int p2), .val (.int (((p1 + (1 : Int32)) + (1 : Int32)) + (1 : Int32))), .val (.int (jushr (jushr (jushr p2 (7 : Int32)) (7 : Int32)) (7 : Int32)))] [])) (fun t k => XS.icmpNo X24.here hx rfl (hb hby d1_10) rfl (flt hc28).1 k) ?_
          refine go _ (T24.setTop (mkF m 14 #[.val (.ref a1), .val (.int p1), .val (.int p2), .val (.int (((p1 + (1 : Int32)) + (1 : Int32)) + (1 : Int32))), .val (.int (jushr (jushr (jushr p2 (7 : Int32)) (7 : Int32)) (7 : Int32)))] [(.ref a1)])) (fun t k => XS.aloadN X24.here hx rfl (hb hby d1_13) rfl rfl k) ?_
          refine go _ (T24.setTop (mkF m 15 #[.val (.ref a1), .val (.int p1), .val (.int p2), .val (.int (((p1 + (1 : Int32)) + (1 : Int32)) + (1 : Int32))), .val (.int (jushr (jushr (jushr p2 (7 : Int32)) (7 : Int32)) (7 : Int32)))] [(.int (((p1 + (1 : Int32)) + (1 : Int32)) + (1 : Int32))), (.ref a1)])) (fun t k => XS.iloadN X24.here hx rfl (hb hby d1_14) rfl k) ?_
          refine go _ (T24.setTop (mkF m 18 #[.val (.ref a1), .val (.int p1), .val (.int p2), .val (.int ((((p1 + (1 : Int32)) + (1 : Int32)) + (1 : Int32)) + (1 : Int32))), .val (.int (jushr (jushr (jushr p2 (7 : Int32)) (7 : Int32)) (7 : Int32)))] [(.int (((p1 + (1 : Int32)) + (1 : Int32)) + (1 : Int32))), (.ref a1)])) (fun t k => XS.iinc X24.here hx rfl (hb hby d1_15) rfl (l' := #[.val (.ref a1), .val (.int p1), .val (.int p2), .val (.int ((((p1 + (1 : Int32)) + (1 : Int32)) + (1 : Int32)) + (1 : Int32))), .val (.int (jushr (jushr (jushr p2 (7 : Int32)) (7 : Int32)) (7 : Int32)))]) rfl k) ?_
          refine go _ (T24.setTop (mkF m 20 #[.val (.ref a1), .val (.int p1), .val (.int p2), .val (.int ((((p1 + (1 : Int32)) + (1 : Int32)) + (1 : Int32)) + (1 : Int32))), .val (.int (jushr (jushr (jushr p2 (7 : Int32)) (7 : Int32)) (7 : Int32)))] [(.int (jushr (jushr (jushr p2 (7 : Int32)) (7 : Int32)) (7 : Int32))), (.int (((p1 + (1 : Int32)) + (1 : Int32)) + (1 : Int32))), (.ref a1)])) (fun t k => XS.iload X24.here hx rfl (hb hby d1_18) rfl k) ?_
          refine go _ (T24.setTop (mkF m 23 #[.val (.ref a1), .val (.int p1), .val (.int p2), .val (.int ((((p1 + (1 : Int32)) + (1 : Int32)) + (1 : Int32)) + (1 : Int32))), .val (.int (jushr (jushr (jushr p2 (7 : Int32)) (7 : Int32)) (7 : Int32)))] [(.int (128 : Int32)), (.int (jushr (jushr (jushr p2 (7 : Int32)) (7 : Int32)) (7 : Int32))), (.int (((p1 + (1 : Int32)) + (1 : Int32)) + (1 : Int32))), (.ref a1)])) (fun t k => XS.sipush X24.here hx rfl (hb hby d1_20) k) ?_
          refine go _ (T24.setTop (mkF m 24 #[.val (.ref a1), .val (.int p1), .val (.int p2), .val (.int ((((p1 + (1 : Int32)) + (1 : Int32)) + (1 : Int32)) + (1 : Int32))), .val (.int (jushr (jushr (jushr p2 (7 : Int32)) (7 : Int32)) (7 : Int32)))] [(.int ((jushr (jushr (jushr p2 (7 : Int32)) (7 : Int32)) (7 : Int32)) ||| (128 : Int32))), (.int (((p1 + (1 : Int32)) + (1 : Int32)) + (1 : Int32))), (.ref a1)])) (fun t k => XS.ior X24.here hx rfl (hb hby d1_23) rfl k) ?_
          refine go _ (T24.setTop (mkF m 25 #[.val (.ref a1), .val (.int p1), .val (.int p2), .val (.int ((((p1 + (1 : Int32)) + (1 : Int32)) + (1 : Int32)) + (1 : Int32))), .val (.int (jushr (jushr (jushr p2 (7 : Int32)) (7 : Int32)) (7 : Int32)))] [(.int (jb ((jushr (jushr (jushr p2 (7 : Int32)) (7 : Int32)) (7 : Int32)) ||| (128 : Int32)))), (.int (((p1 + (1 : Int32)) + (1 : Int32)) + (1 : Int32))), (.ref a1)])) (fun t k => XS.i2b X24.here hx rfl (hb hby d1_24) rfl k) ?_
          obtain ⟨T33, h33, X33, e33, W33, A33, st33⟩ := own_stB X24 hx hZ e24 A24 (i := (i + 3)) hj3 (by omega) (own_narb ((jushr (jushr (jushr p2 (7 : Int32)) (7 : Int32)) (7 : Int32)) ||| (128 : Int32))) (g := (mkF m 25 #[.val (.ref a1), .val (.int p1), .val (.int p2), .val (.int ((((p1 + (1 : Int32)) + (1 : Int32)) + (1 : Int32)) + (1 : Int32))), .val (.int (jushr (jushr (jushr p2 (7 : Int32)) (7 : Int32)) (7 : Int32)))] [(.int (jb ((jushr (jushr (jushr p2 (7 : Int32)) (7 : Int32)) (7 : Int32)) ||| (128 : Int32)))), (.int (((p1 + (1 : Int32)) + (1 : Int32)) + (1 : Int32))), (.ref a1)])) rfl rfl (hb hby d1_25)
          have Z34 : n0 ≤ h33.size := by rw [W33.size]; exact Z25
          have N35 := Fr.snoc X33 N26 g0
          have K36 := K27.wr W33 (Or.inl (by simp))
          refine go _ (T33.setTop (mkF m 26 #[.val (.ref a1), .val (.int p1), .val (.int p2), .val (.int ((((p1 + (1 : Int32)) + (1 : Int32)) + (1 : Int32)) + (1 : Int32))), .val (.int (jushr (jushr (jushr p2 (7 : Int32)) (7 : Int32)) (7 : Int32)))] [])) (st33) ?_
          refine go _ (T33.setTop (mkF m 28 #[.val (.ref a1), .val (.int p1), .val (.int p2), .val (.int ((((p1 + (1 : Int32)) + (1 : Int32)) + (1 : Int32)) + (1 : Int32))), .val (.int (jushr (jushr (jushr p2 (7 : Int32)) (7 : Int32)) (7 : Int32)))] [(.int (jushr (jushr (jushr p2 (7 : Int32)) (7 : Int32)) (7 : Int32)))])) (fun t k => XS.iload X33.here hx rfl (hb hby d1_26) rfl k) ?_
          refine go _ (T33.setTop (mkF m 30 #[.val (.ref a1), .val (.int p1), .val (.int p2), .val (.int ((((p1 + (1 : Int32)) + (1 : Int32)) + (1 : Int32)) + (1 : Int32))), .val (.int (jushr (jushr (jushr p2 (7 : Int32)) (7 : Int32)) (7 : Int32)))] [(.int (7 : Int32)), (.int (jushr (jushr (jushr p2 (7 : Int32)) (7 : Int32)) (7 : Int32)))])) (fun t k => XS.bipush X33.here hx rfl (hb hby d1_28) k) ?_
          refine go _ (T33.setTop (mkF m 31 #[.val (.ref a1), .val (.int p1), .val (.int p2), .val (.int ((((p1 + (1 : Int32)) + (1 : Int32)) + (1 : Int32)) + (1 : Int32))), .val (.int (jushr (jushr (jushr p2 (7 : Int32)) (7 : Int32)) (7 : Int32)))] [(.int (jushr (jushr (jushr (jushr p2 (7 : Int32)) (7 : Int32)) (7 : Int32)) (7 : Int32)))])) (fun t k => XS.iushr X33.here hx rfl (hb hby d1_30) rfl k) ?_
          refine go _ (T33.setTop (mkF m 33 #[.val (.ref a1), .val (.int p1), .val (.int p2), .val (.int ((((p1 + (1 : Int32)) + (1 : Int32)) + (1 : Int32)) + (1 : Int32))), .val (.int (jushr (jushr (jushr (jushr p2 (7 : Int32)) (7 : Int32)) (7 : Int32)) (7 : Int32)))] [])) (fun t k => XS.istore X33.here hx rfl (hb hby d1_31) rfl (l' := #[.val (.ref a1), .val (.int p1), .val (.int p2), .val (.int ((((p1 + (1 : Int32)) + (1 : Int32)) + (1 : Int32)) + (1 : Int32))), .val (.int (jushr (jushr (jushr (jushr p2 (7 : Int32)) (7 : Int32)) (7 : Int32)) (7 : Int32)))]) rfl k) ?_
          refine go _ (T33.setTop (mkF m 5 #[.val (.ref a1), .val (.int p1), .val (.int p2), .val (.int ((((p1 + (1 : Int32)) + (1 : Int32)) + (1 : Int32)) + (1 : Int32))), .val (.int (jushr (jushr (jushr (jushr p2 (7 : Int32)) (7 : Int32)) (7 : Int32)) (7 : Int32)))] [])) (fun t k => XS.goto X33.here hx rfl (pc0 := 33) (pc' := 5) rfl (hb hby d1_33) (by decide) (by decide) k) ?_
          refine go _ (T33.setTop (mkF m 7 #[.val (.ref a1), .val (.int p1), .val (.int p2), .val (.int ((((p1 + (1 : Int32)) + (1 : Int32)) + (1 : Int32)) + (1 : Int32))), .val (.int (jushr (jushr (jushr (jushr p2 (7 : Int32)) (7 : Int32)) (7 : Int32)) (7 : Int32)))] [(.int (jushr (jushr (jushr (jushr p2 (7 : Int32)) (7 : Int32)) (7 : Int32)) (7 : Int32)))])) (fun t k => XS.iload X33.here hx rfl (hb hby d1_5) rfl k) ?_
          refine go _ (T33.setTop (mkF m 10 #[.val (.ref a1), .val (.int p1), .val (.int p2), .val (.int ((((p1 + (1 : Int32)) + (1 : Int32)) + (1 : Int32)) + (1 : Int32))), .val (.int (jushr (jushr (jushr (jushr p2 (7 : Int32)) (7 : Int32)) (7 : Int32)) (7 : Int32)))] [(.int (128 : Int32)), (.int (jushr (jushr (jushr (jushr p2 (7 : Int32)) (7 : Int32)) (7 : Int32)) (7 : Int32)))])) (fun t k => XS.sipush X33.here hx rfl (hb hby d1_7) k) ?_
          have hc37 : ((jushr (jushr (jushr (jushr p2 (7 : Int32)) (7 : Int32)) (7 : Int32)) (7 : Int32)) < (128 : Int32)) := own_r4 p2 hp
          refine go _ (T33.setTop (mkF m 36 #[.val (.ref a1), .val (.int p1), .val (.int p2), .val (.int ((((p1 + (1 : Int32)) + (1 : Int32)) + (1 : Int32)) + (1 : Int32))), .val (.int (jushr (jushr (jushr (jushr p2 (7 : Int32)) (7 : Int32)) (7 : Int32)) (7 : Int32)))] [])) (fun t k => XS.icmpYes X33.here hx rfl (pc0 := 10) (pc' := 36) rfl (hb hby d1_10) rfl (tlt hc37).1 (by decide) (by decide) k) ?_
          refine go _ (T33.setTop (mkF m 37 #[.val (.ref a1), .val (.int p1), .val (.int p2), .val (.int ((((p1 + (1 : Int32)) + (1 : Int32)) + (1 : Int32)) + (1 : Int32))), .val (.int (jushr (jushr (jushr (jushr p2 (7 : Int32)) (7 : Int32)) (7 : Int32)) (7 : Int32)))] [(.ref a1)])) (fun t k => XS.aloadN X33.here hx rfl (hb hby d1_36) rfl rfl k) ?_
          refine go _ (T33.setTop (mkF m 38 #[.val (.ref a1), .val (.int p1), .val (.int p2), .val (.int ((((p1 + (1 : Int32)) + (1 : Int32)) + (1 : Int32)) + (1 : Int32))), .val (.int (jushr (jushr (jushr (jushr p2 (7 : Int32)) (7 : Int32)) (7 : Int32)) (7 : Int32)))] [(.int ((((p1 + (1 : Int32)) + (1 : Int32)) + (1 : Int32)) + (1 : Int32))), (.ref a1)])) (fun t k => XS.iloadN X33.here hx rfl (hb hby d1_37) rfl k) ?_
          refine go _ (T33.setTop (mkF m 41 #[.val (.ref a1), .val (.int p1), .val (.int p2), .val (.int (((((p1 + (1 : Int32)) + (1 : Int32)) + (1 : Int32)) + (1 : Int32)) + (1 : Int32))), .val (.int (jushr (jushr (jushr (jushr p2 (7 : Int32)) (7 : Int32)) (7 : Int32)) (7 : Int32)))] [(.int ((((p1 + (1 : Int32)) + (1 : Int32)) + (1 : Int32)) + (1 : Int32))), (.ref a1)])) (fun t k => XS.iinc X33.here hx rfl (hb hby d1_38) rfl (l' := #[.val (.ref a1), .val (.int p1), .val (.int p2), .val (.int (((((p1 + (1 : Int32)) + (1 : Int32)) + (1 : Int32)) + (1 : Int32)) + (1 : Int32))), .val (.int (jushr (jushr (jushr (jushr p2 (7 : Int32)) (7 : Int32)) (7 : Int32)) (7 : Int32)))]) rfl k) ?_
          refine go _ (T33.setTop (mkF m 43 #[.val (.ref a1), .val (.int p1), .val (.int p2), .val (.int (((((p1 + (1 : Int32)) + (1 : Int32)) + (1 : Int32)) + (1 : Int32)) + (1 : Int32))), .val (.int (jushr (jushr (jushr (jushr p2 (7 : Int32)) (7 : Int32)) (7 : Int32)) (7 : Int32)))] [(.int (jushr (jushr (jushr (jushr p2 (7 : Int32)) (7 : Int32)) (7 : Int32)) (7 : Int32))), (.int ((((p1 + (1 : Int32)) + (1 : Int32)) + (1 : Int32)) + (1 : Int32))), (.ref a1)])) (fun t k => XS.iload X33.here hx rfl (hb hby d1_41) rfl k) ?_
          refine go _ (T33.setTop (mkF m 44 #[.val (.ref a1), .val (.int p1), .val (.int p2), .val (.int (((((p1 + (1 : Int32)) + (1 : Int32)) + (1 : Int32)) + (1 : Int32)) + (1 : Int32))), .val (.int (jushr (jushr (jushr (jushr p2 (7 : Int32)) (7 : Int32)) (7 : Int32)) (7 : Int32)))] [(.int (jb (jushr (jushr (jushr (jushr p2 (7 : Int32)) (7 : Int32)) (7 : Int32)) (7 : Int32)))), (.int ((((p1 + (1 : Int32)) + (1 : Int32)) + (1 : Int32)) + (1 : Int32))), (.ref a1)])) (fun t k => XS.i2b X33.here hx rfl (hb hby d1_43) rfl k) ?_
          obtain ⟨T38, h38, X38, e38, W38, A38, st38⟩ := own_stB X33 hx hZ e33 A33 (i := (i + 4)) hj4 (by omega) (own_narb (jushr (jushr (jushr (jushr p2 (7 : Int32)) (7 : Int32)) (7 : Int32)) (7 : Int32))) (g := (mkF m 44 #[.val (.ref a1), .val (.int p1), .val (.int p2), .val (.int (((((p1 + (1 : Int32)) + (1 : Int32)) + (1 : Int32)) + (1 : Int32)) + (1 : Int32))), .val (.int (jushr (jushr (jushr (jushr p2 (7 : Int32)) (7 : Int32)) (7 : Int32)) (7 : Int32)))] [(.int (jb (jushr (jushr (jushr (jushr p2 (7 : Int32)) (7 : Int32)) (7 : Int32)) (7 : Int32)))), (.int ((((p1 + (1 : Int32)) + (1 : Int32)) + (1 : Int32)) + (1 : Int32))), (.ref a1)])) rfl rfl (hb hby d1_44)
          have Z39 : n0 ≤ h38.size := by rw [W38.size]; exact Z34
          have N40 := Fr.snoc X38 N35 g0
          have K41 := K36.wr W38 (Or.inl (by simp))
          refine go _ (T38.setTop (mkF m 45 #[.val (.ref a1), .val (.int p1), .val (.int p2), .val (.int (((((p1 + (1 : Int32)) + (1 : Int32)) + (1 : Int32)) + (1 : Int32)) + (1 : Int32))), .val (.int (jushr (jushr (jushr (jushr p2 (7 : Int32)) (7 : Int32)) (7 : Int32)) (7 : Int32)))] [])) (st38) ?_
          refine go _ (T38.setTop (mkF m 46 #[.val (.ref a1), .val (.int p1), .val (.int p2), .val (.int (((((p1 + (1 : Int32)) + (1 : Int32)) + (1 : Int32)) + (1 : Int32)) + (1 : Int32))), .val (.int (jushr (jushr (jushr (jushr p2 (7 : Int32)) (7 : Int32)) (7 : Int32)) (7 : Int32)))] [(.int (((((p1 + (1 : Int32)) + (1 : Int32)) + (1 : Int32)) + (1 : Int32)) + (1 : Int32)))])) (fun t k => XS.iloadN X38.here hx rfl (hb hby d1_45) rfl k) ?_
          exact fin (some (.int (((((p1 + (1 : Int32)) + (1 : Int32)) + (1 : Int32)) + (1 : Int32)) + (1 : Int32)))) X38 (by decide) (by decide) (fun q => by cases q) (show Q_rm1 Z a1 p1 p2 f n i h0 n0 _ T38.heap _ from (by rw [e38]; exact ⟨congrArg some (congrArg Value.int (show (((((p1 + (1 : Int32)) + (1 : Int32)) + (1 : Int32)) + (1 : Int32)) + (1 : Int32)) = own_end p1 p2 from (by unfold own_end; rw [if_neg hc1, if_neg hc10, if_neg hc19, if_neg hc28]))), N40, K41, (by unfold own_wr; rw [if_neg hc1, if_neg hc10, if_neg hc19, if_neg hc28]; exact A38)⟩)) (fun fs hr => retI X38 hx hret (hb hby d1_46) hr)
theorem d2_0 : decode method_3_code 0 = .ok (.iload_n 1, 1) := by decide +kernel
theorem d2_1 : decode method_3_code 1 = .ok (.iload_n 2, 1) := by decide +kernel
theorem d2_2 : decode method_3_code 2 = .ok (.isub, 1) := by decide +kernel
theorem d2_3 : decode method_3_code 3 = .ok (.istore 6, 2) := by decide +kernel
theorem d2_5 : decode method_3_code 5 = .ok (.iload 6, 2) := by decide +kernel
theorem d2_7 : decode method_3_code 7 = .ok (.ifCond .lt 9, 3) := by decide +kernel
theorem d2_10 : decode method_3_code 10 = .ok (.iload 6, 2) := by decide +kernel
theorem d2_12 : decode method_3_code 12 = .ok (.iload_n 3, 1) := by decide +kernel
theorem d2_13 : decode method_3_code 13 = .ok (.if_icmp .lt 10, 3) := by decide +kernel
theorem d2_16 : decode method_3_code 16 = .ok (.iload 5, 2) := by decide +kernel
theorem d2_18 : decode method_3_code 18 = .ok (.istore 7, 2) := by decide +kernel
theorem d2_20 : decode method_3_code 20 = .ok (.goto 41, 3) := by decide +kernel
theorem d2_23 : decode method_3_code 23 = .ok (.iload 4, 2) := by decide +kernel
theorem d2_25 : decode method_3_code 25 = .ok (.bipush 7, 2) := by decide +kernel
theorem d2_27 : decode method_3_code 27 = .ok (.iload 6, 2) := by decide +kernel
theorem d2_29 : decode method_3_code 29 = .ok (.imul, 1) := by decide +kernel
theorem d2_30 : decode method_3_code 30 = .ok (.iushr, 1) := by decide +kernel
theorem d2_31 : decode method_3_code 31 = .ok (.bipush 127, 2) := by decide +kernel
theorem d2_33 : decode method_3_code 33 = .ok (.iand, 1) := by decide +kernel
theorem d2_34 : decode method_3_code 34 = .ok (.istore 8, 2) := by decide +kernel
theorem d2_36 : decode method_3_code 36 = .ok (.iload 6, 2) := by decide +kernel
theorem d2_38 : decode method_3_code 38 = .ok (.iload_n 3, 1) := by decide +kernel
theorem d2_39 : decode method_3_code 39 = .ok (.iconst 1, 1) := by decide +kernel
theorem d2_40 : decode method_3_code 40 = .ok (.isub, 1) := by decide +kernel
theorem d2_41 : decode method_3_code 41 = .ok (.if_icmp .ge 15, 3) := by decide +kernel
theorem d2_44 : decode method_3_code 44 = .ok (.iload 8, 2) := by decide +kernel
theorem d2_46 : decode method_3_code 46 = .ok (.sipush 128, 3) := by decide +kernel
theorem d2_49 : decode method_3_code 49 = .ok (.ior, 1) := by decide +kernel
theorem d2_50 : decode method_3_code 50 = .ok (.i2b, 1) := by decide +kernel
theorem d2_51 : decode method_3_code 51 = .ok (.istore 7, 2) := by decide +kernel
theorem d2_53 : decode method_3_code 53 = .ok (.goto 8, 3) := by decide +kernel
theorem d2_56 : decode method_3_code 56 = .ok (.iload 8, 2) := by decide +kernel
theorem d2_58 : decode method_3_code 58 = .ok (.i2b, 1) := by decide +kernel
theorem d2_59 : decode method_3_code 59 = .ok (.istore 7, 2) := by decide +kernel
theorem d2_61 : decode method_3_code 61 = .ok (.aload_n 0, 1) := by decide +kernel
theorem d2_62 : decode method_3_code 62 = .ok (.iload_n 1, 1) := by decide +kernel
theorem d2_63 : decode method_3_code 63 = .ok (.baload, 1) := by decide +kernel
theorem d2_64 : decode method_3_code 64 = .ok (.iload 7, 2) := by decide +kernel
theorem d2_66 : decode method_3_code 66 = .ok (.if_icmp .ne 7, 3) := by decide +kernel
theorem d2_69 : decode method_3_code 69 = .ok (.iconst 1, 1) := by decide +kernel
theorem d2_70 : decode method_3_code 70 = .ok (.goto 4, 3) := by decide +kernel
theorem d2_73 : decode method_3_code 73 = .ok (.iconst 0, 1) := by decide +kernel
theorem d2_74 : decode method_3_code 74 = .ok (.ireturn, 1) := by decide +kernel
theorem pn_6 : plainName "com/example/keyspace_ledger/keyspaceledger/LengthPrefixWritePinLaw" = true := by first | (simp [plainName, overriddenIn]; done) | decide +kernel
theorem ef_rm2 (m : MethodId) (a1 : Addr) (p1 : Int32) (p2 : Int32) (p3 : Int32) (p4 : Int32) (p5 : Int32) : entryFrame m #[(.ref a1), (.int p1), (.int p2), (.int p3), (.int p4), (.int p5)] 9 = mkF m 0 #[.val (.ref a1), .val (.int p1), .val (.int p2), .val (.int p3), .val (.int p4), .val (.int p5), .unset, .unset, .unset] [] := by first | (simp [entryFrame, mkF, argsToLocals, Value.category]; done) | rfl
def own_at (y p1 p2 p3 p4 p5 : Int32) : Int32 := (if (p1 - p2) < (0 : Int32) then (if y = p5 then (1 : Int32) else (0 : Int32)) else (if (p1 - p2) < p3 then (if (p1 - p2) < (p3 - (1 : Int32)) then (if y = (jb (((jushr p4 ((7 : Int32) * (p1 - p2))) &&& (127 : Int32)) ||| (128 : Int32))) then (1 : Int32) else (0 : Int32)) else (if y = (jb ((jushr p4 ((7 : Int32) * (p1 - p2))) &&& (127 : Int32))) then (1 : Int32) else (0 : Int32))) else (if y = p5 then (1 : Int32) else (0 : Int32))))
def Q_rm2 (Z : State) (a1 : Addr) (p1 : Int32) (p2 : Int32) (p3 : Int32) (p4 : Int32) (p5 : Int32) (f : Nat → Value) (n : Nat) (i : Nat) (y : Int32) (h0 : Heap) (n0 : Nat) (v : Option Value) (h : Heap) (L : List Loc) : Prop := v = some (.int (own_at y p1 p2 p3 p4 p5)) ∧ Fr n0 L ∧ h = h0
set_option maxRecDepth 65536 in
set_option maxHeartbeats 40000000 in
theorem rm2 (l : Launch) (Z : State) (a0 : Array Value) (hw : ∀ d ∈ tables_1, d.before a0 Z = true) (ws : List Jvm.Cond) (a1 : Addr) (p1 : Int32) (p2 : Int32) (p3 : Int32) (p4 : Int32) (p5 : Int32) (f : Nat → Value) (n : Nat) (i : Nat) (y : Int32) (h0 : Heap) (n0 : Nat) (Z0 : n0 ≤ h0.size) (A0 : AF Z h0 a1 .byte n f) (hj : p1.toInt = (i : Int)) (hi : i < n) (hv : f i = .int y) :
    MetFree l (⟨"com/example/keyspace_ledger/keyspaceledger/LengthPrefixWritePinLaw", "at", "([BIIIIB)Z"⟩ : MethodName) (head1 (Jvm.Cond.code (⟨"com/example/keyspace_ledger/keyspaceledger/LengthPrefixWritePinLaw", "at", "([BIIIIB)Z"⟩ : MethodName) method_3_code 9 (some .boolean) :: ws) ({ frames := 0, cells := 0, slots := 0, locals := 0 } : Room)) (fun a U => a = #[(.ref a1), (.int p1), (.int p2), (.int p3), (.int p4), (.int p5)] ∧ Z.Warmed39 U.vm ∧ U.heap = h0) (fun _ _ _ _ _ => True) (fun _ U o U' => ∃ v L, o = .returned v ∧ Q_rm2 Z a1 p1 p2 p3 p4 p5 f n i y h0 n0 v U'.heap L ∧ FrameEnd U o U' L ({ frames := 0, cells := 0, slots := 0, locals := 0 } : Room).cells ({ frames := 0, cells := 0, slots := 0, locals := 0 } : Room).slots) := by
  refine own_body (Q := Q_rm2 Z a1 p1 p2 p3 p4 p5 f n i y h0 n0) (plainFor_of_name pn_6) ?_
  intro p e s m below meth c s₁ K go fin X0 hx hby hml hown hnm hret hZ e0
  have hown : s.vm.findClass "com/example/keyspace_ledger/keyspaceledger/LengthPrefixWritePinLaw" = some m.cls := hown
  have N0 := Fr.nil n0
  refine go _ (s₁.setTop (mkF m 0 #[.val (.ref a1), .val (.int p1), .val (.int p2), .val (.int p3), .val (.int p4), .val (.int p5), .unset, .unset, .unset] [])) (fun t k => castTop (ef_rm2 m a1 p1 p2 p3 p4 p5) k) ?_
  refine go _ (s₁.setTop (mkF m 1 #[.val (.ref a1), .val (.int p1), .val (.int p2), .val (.int p3), .val (.int p4), .val (.int p5), .unset, .unset, .unset] [(.int p1)])) (fun t k => XS.iloadN X0.here hx rfl (hb hby d2_0) rfl k) ?_
  refine go _ (s₁.setTop (mkF m 2 #[.val (.ref a1), .val (.int p1), .val (.int p2), .val (.int p3), .val (.int p4), .val (.int p5), .unset, .unset, .unset] [(.int p2), (.int p1)])) (fun t k => XS.iloadN X0.here hx rfl (hb hby d2_1) rfl k) ?_
  refine go _ (s₁.setTop (mkF m 3 #[.val (.ref a1), .val (.int p1), .val (.int p2), .val (.int p3), .val (.int p4), .val (.int p5), .unset, .unset, .unset] [(.int (p1 - p2))])) (fun t k => XS.isub X0.here hx rfl (hb hby d2_2) rfl k) ?_
  refine go _ (s₁.setTop (mkF m 5 #[.val (.ref a1), .val (.int p1), .val (.int p2), .val (.int p3), .val (.int p4), .val (.int p5), .val (.int (p1 - p2)), .unset, .unset] [])) (fun t k => XS.istore X0.here hx rfl (hb hby d2_3) rfl (l' := #[.val (.ref a1), .val (.int p1), .val (.int p2), .val (.int p3), .val (.int p4), .val (.int p5), .val (.int (p1 - p2)), .unset, .unset]) rfl k) ?_
  refine go _ (s₁.setTop (mkF m 7 #[.val (.ref a1), .val (.int p1), .val (.int p2), .val (.int p3), .val (.int p4), .val (.int p5), .val (.int (p1 - p2)), .unset, .unset] [(.int (p1 - p2))])) (fun t k => XS.iload X0.here hx rfl (hb hby d2_5) rfl k) ?_
  by_cases hc42 : (p1 - p2) < (0 : Int32)
  · refine go _ (s₁.setTop (mkF m 16 #[.val (.ref a1), .val (.int p1), .val (.int p2), .val (.int p3), .val (.int p4), .val (.int p5), .val (.int (p1 - p2)), .unset, .unset] [])) (fun t k => XS.ifYes X0.here hx rfl (pc0 := 7) (pc' := 16) rfl (hb hby d2_7) rfl ((if0 _ _).trans (tlt hc42).1) (by decide) (by decide) k) ?_
    refine go _ (s₁.setTop (mkF m 18 #[.val (.ref a1), .val (.int p1), .val (.int p2), .val (.int p3), .val (.int p4), .val (.int p5), .val (.int (p1 - p2)), .unset, .unset] [(.int p5)])) (fun t k => XS.iload X0.here hx rfl (hb hby d2_16) rfl k) ?_
    refine go _ (s₁.setTop (mkF m 20 #[.val (.ref a1), .val (.int p1), .val (.int p2), .val (.int p3), .val (.int p4), .val (.int p5), .val (.int (p1 - p2)), .val (.int p5), .unset] [])) (fun t k => XS.istore X0.here hx rfl (hb hby d2_18) rfl (l' := #[.val (.ref a1), .val (.int p1), .val (.int p2), .val (.int p3), .val (.int p4), .val (.int p5), .val (.int (p1 - p2)), .val (.int p5), .unset]) rfl k) ?_
    refine go _ (s₁.setTop (mkF m 61 #[.val (.ref a1), .val (.int p1), .val (.int p2), .val (.int p3), .val (.int p4), .val (.int p5), .val (.int (p1 - p2)), .val (.int p5), .unset] [])) (fun t k => XS.goto X0.here hx rfl (pc0 := 20) (pc' := 61) rfl (hb hby d2_20) (by decide) (by decide) k) ?_
    refine go _ (s₁.setTop (mkF m 62 #[.val (.ref a1), .val (.int p1), .val (.int p2), .val (.int p3), .val (.int p4), .val (.int p5), .val (.int (p1 - p2)), .val (.int p5), .unset] [(.ref a1)])) (fun t k => XS.aloadN X0.here hx rfl (hb hby d2_61) rfl rfl k) ?_
    refine go _ (s₁.setTop (mkF m 63 #[.val (.ref a1), .val (.int p1), .val (.int p2), .val (.int p3), .val (.int p4), .val (.int p5), .val (.int (p1 - p2)), .val (.int p5), .unset] [(.int p1), (.ref a1)])) (fun t k => XS.iloadN X0.here hx rfl (hb hby d2_62) rfl k) ?_
    refine go _ (s₁.setTop (mkF m 64 #[.val (.ref a1), .val (.int p1), .val (.int p2), .val (.int p3), .val (.int p4), .val (.int p5), .val (.int (p1 - p2)), .val (.int p5), .unset] [(.int y)])) (own_ldB X0 hx hZ e0 A0 (i := i) hj hi (g := (mkF m 63 #[.val (.ref a1), .val (.int p1), .val (.int p2), .val (.int p3), .val (.int p4), .val (.int p5), .val (.int (p1 - p2)), .val (.int p5), .unset] [(.int p1), (.ref a1)])) rfl rfl (hb hby d2_63) (v := (.int y)) hv) ?_
    refine go _ (s₁.setTop (mkF m 66 #[.val (.ref a1), .val (.int p1), .val (.int p2), .val (.int p3), .val (.int p4), .val (.int p5), .val (.int (p1 - p2)), .val (.int p5), .unset] [(.int p5), (.int y)])) (fun t k => XS.iload X0.here hx rfl (hb hby d2_64) rfl k) ?_
    by_cases hc43 : y = p5
    · refine go _ (s₁.setTop (mkF m 69 #[.val (.ref a1), .val (.int p1), .val (.int p2), .val (.int p3), .val (.int p4), .val (.int p5), .val (.int (p1 - p2)), .val (.int p5), .unset] [])) (fun t k => XS.icmpNo X0.here hx rfl (hb hby d2_66) rfl (teq hc43).2 k) ?_
      refine go _ (s₁.setTop (mkF m 70 #[.val (.ref a1), .val (.int p1), .val (.int p2), .val (.int p3), .val (.int p4), .val (.int p5), .val (.int (p1 - p2)), .val (.int p5), .unset] [(.int (1 : Int32))])) (fun t k => XS.iconst X0.here hx rfl (hb hby d2_69) k) ?_
      refine go _ (s₁.setTop (mkF m 74 #[.val (.ref a1), .val (.int p1), .val (.int p2), .val (.int p3), .val (.int p4), .val (.int p5), .val (.int (p1 - p2)), .val (.int p5), .unset] [(.int (1 : Int32))])) (fun t k => XS.goto X0.here hx rfl (pc0 := 70) (pc' := 74) rfl (hb hby d2_70) (by decide) (by decide) k) ?_
      exact fin (some (.int (1 : Int32))) X0 (by decide) (by decide) (fun q => by cases q) (show Q_rm2 Z a1 p1 p2 p3 p4 p5 f n i y h0 n0 _ s₁.heap _ from (by rw [e0]; exact ⟨congrArg some (congrArg Value.int (show (1 : Int32) = (own_at y p1 p2 p3 p4 p5) from (show (own_at y p1 p2 p3 p4 p5) = (1 : Int32) from (by unfold own_at; rw [if_pos hc42, if_pos hc43])).symm)), N0, rfl⟩)) (fun fs hr => retN X0 hx (t := .boolean) hret (by simp) (hb hby d2_74) hr)
    · refine go _ (s₁.setTop (mkF m 73 #[.val (.ref a1), .val (.int p1), .val (.int p2), .val (.int p3), .val (.int p4), .val (.int p5), .val (.int (p1 - p2)), .val (.int p5), .unset] [])) (fun t k => XS.icmpYes X0.here hx rfl (pc0 := 66) (pc' := 73) rfl (hb hby d2_66) rfl (feq hc43).2 (by decide) (by decide) k) ?_
      refine go _ (s₁.setTop (mkF m 74 #[.val (.ref a1), .val (.int p1), .val (.int p2), .val (.int p3), .val (.int p4), .val (.int p5), .val (.int (p1 - p2)), .val (.int p5), .unset] [(.int (0 : Int32))])) (fun t k => XS.iconst X0.here hx rfl (hb hby d2_73) k) ?_
      exact fin (some (.int (0 : Int32))) X0 (by decide) (by decide) (fun q => by cases q) (show Q_rm2 Z a1 p1 p2 p3 p4 p5 f n i y h0 n0 _ s₁.heap _ from (by rw [e0]; exact ⟨congrArg some (congrArg Value.int (show (0 : Int32) = (own_at y p1 p2 p3 p4 p5) from (show (own_at y p1 p2 p3 p4 p5) = (0 : Int32) from (by unfold own_at; rw [if_pos hc42, if_neg hc43])).symm)), N0, rfl⟩)) (fun fs hr => retN X0 hx (t := .boolean) hret (by simp) (hb hby d2_74) hr)
  · refine go _ (s₁.setTop (mkF m 10 #[.val (.ref a1), .val (.int p1), .val (.int p2), .val (.int p3), .val (.int p4), .val (.int p5), .val (.int (p1 - p2)), .unset, .unset] [])) (fun t k => XS.ifNo X0.here hx rfl (hb hby d2_7) rfl ((if0 _ _).trans (flt hc42).1) k) ?_
    refine go _ (s₁.setTop (mkF m 12 #[.val (.ref a1), .val (.int p1), .val (.int p2), .val (.int p3), .val (.int p4), .val (.int p5), .val (.int (p1 - p2)), .unset, .unset] [(.int (p1 - p2))])) (fun t k => XS.iload X0.here hx rfl (hb hby d2_10) rfl k) ?_
    refine go _ (s₁.setTop (mkF m 13 #[.val (.ref a1), .val (.int p1), .val (.int p2), .val (.int p3), .val (.int p4), .val (.int p5), .val (.int (p1 - p2)), .unset, .unset] [(.int p3), (.int (p1 - p2))])) (fun t k => XS.iloadN X0.here hx rfl (hb hby d2_12) rfl k) ?_
    by_cases hc44 : (p1 - p2) < p3
    · refine go _ (s₁.setTop (mkF m 23 #[.val (.ref a1), .val (.int p1), .val (.int p2), .val (.int p3), .val (.int p4), .val (.int p5), .val (.int (p1 - p2)), .unset, .unset] [])) (fun t k => XS.icmpYes X0.here hx rfl (pc0 := 13) (pc' := 23) rfl (hb hby d2_13) rfl (tlt hc44).1 (by decide) (by decide) k) ?_
      refine go _ (s₁.setTop (mkF m 25 #[.val (.ref a1), .val (.int p1), .val (.int p2), .val (.int p3), .val (.int p4), .val (.int p5), .val (.int (p1 - p2)), .unset, .unset] [(.int p4)])) (fun t k => XS.iload X0.here hx rfl (hb hby d2_23) rfl k) ?_
      refine go _ (s₁.setTop (mkF m 27 #[.val (.ref a1), .val (.int p1), .val (.int p2), .val (.int p3), .val (.int p4), .val (.int p5), .val (.int (p1 - p2)), .unset, .unset] [(.int (7 : Int32)), (.int p4)])) (fun t k => XS.bipush X0.here hx rfl (hb hby d2_25) k) ?_
      refine go _ (s₁.setTop (mkF m 29 #[.val (.ref a1), .val (.int p1), .val (.int p2), .val (.int p3), .val (.int p4), .val (.int p5), .val (.int (p1 - p2)), .unset, .unset] [(.int (p1 - p2)), (.int (7 : Int32)), (.int p4)])) (fun t k => XS.iload X0.here hx rfl (hb hby d2_27) rfl k) ?_
      refine go _ (s₁.setTop (mkF m 30 #[.val (.ref a1), .val (.int p1), .val (.int p2), .val (.int p3), .val (.int p4), .val (.int p5), .val (.int (p1 - p2)), .unset, .unset] [(.int ((7 : Int32) * (p1 - p2))), (.int p4)])) (fun t k => XS.imul X0.here hx rfl (hb hby d2_29) rfl k) ?_
      refine go _ (s₁.setTop (mkF m 31 #[.val (.ref a1), .val (.int p1), .val (.int p2), .val (.int p3), .val (.int p4), .val (.int p5), .val (.int (p1 - p2)), .unset, .unset] [(.int (jushr p4 ((7 : Int32) * (p1 - p2))))])) (fun t k => XS.iushr X0.here hx rfl (hb hby d2_30) rfl k) ?_
      refine go _ (s₁.setTop (mkF m 33 #[.val (.ref a1), .val (.int p1), .val (.int p2), .val (.int p3), .val (.int p4), .val (.int p5), .val (.int (p1 - p2)), .unset, .unset] [(.int (127 : Int32)), (.int (jushr p4 ((7 : Int32) * (p1 - p2))))])) (fun t k => XS.bipush X0.here hx rfl (hb hby d2_31) k) ?_
      refine go _ (s₁.setTop (mkF m 34 #[.val (.ref a1), .val (.int p1), .val (.int p2), .val (.int p3), .val (.int p4), .val (.int p5), .val (.int (p1 - p2)), .unset, .unset] [(.int ((jushr p4 ((7 : Int32) * (p1 - p2))) &&& (127 : Int32)))])) (fun t k => XS.iand X0.here hx rfl (hb hby d2_33) rfl k) ?_
      refine go _ (s₁.setTop (mkF m 36 #[.val (.ref a1), .val (.int p1), .val (.int p2), .val (.int p3), .val (.int p4), .val (.int p5), .val (.int (p1 - p2)), .unset, .val (.int ((jushr p4 ((7 : Int32) * (p1 - p2))) &&& (127 : Int32)))] [])) (fun t k => XS.istore X0.here hx rfl (hb hby d2_34) rfl (l' := #[.val (.ref a1), .val (.int p1), .val (.int p2), .val (.int p3), .val (.int p4), .val (.int p5), .val (.int (p1 - p2)), .unset, .val (.int ((jushr p4 ((7 : Int32) * (p1 - p2))) &&& (127 : Int32)))]) rfl k) ?_
      refine go _ (s₁.setTop (mkF m 38 #[.val (.ref a1), .val (.int p1), .val (.int p2), .val (.int p3), .val (.int p4), .val (.int p5), .val (.int (p1 - p2)), .unset, .val (.int ((jushr p4 ((7 : Int32) * (p1 - p2))) &&& (127 : Int32)))] [(.int (p1 - p2))])) (fun t k => XS.iload X0.here hx rfl (hb hby d2_36) rfl k) ?_
      refine go _ (s₁.setTop (mkF m 39 #[.val (.ref a1), .val (.int p1), .val (.int p2), .val (.int p3), .val (.int p4), .val (.int p5), .val (.int (p1 - p2)), .unset, .val (.int ((jushr p4 ((7 : Int32) * (p1 - p2))) &&& (127 : Int32)))] [(.int p3), (.int (p1 - p2))])) (fun t k => XS.iloadN X0.here hx rfl (hb hby d2_38) rfl k) ?_
      refine go _ (s₁.setTop (mkF m 40 #[.val (.ref a1), .val (.int p1), .val (.int p2), .val (.int p3), .val (.int p4), .val (.int p5), .val (.int (p1 - p2)), .unset, .val (.int ((jushr p4 ((7 : Int32) * (p1 - p2))) &&& (127 : Int32)))] [(.int (1 : Int32)), (.int p3), (.int (p1 - p2))])) (fun t k => XS.iconst X0.here hx rfl (hb hby d2_39) k) ?_
      refine go _ (s₁.setTop (mkF m 41 #[.val (.ref a1), .val (.int p1), .val (.int p2), .val (.int p3), .val (.int p4), .val (.int p5), .val (.int (p1 - p2)), .unset, .val (.int ((jushr p4 ((7 : Int32) * (p1 - p2))) &&& (127 : Int32)))] [(.int (p3 - (1 : Int32))), (.int (p1 - p2))])) (fun t k => XS.isub X0.here hx rfl (hb hby d2_40) rfl k) ?_
      by_cases hc45 : (p1 - p2) < (p3 - (1 : Int32))
      · refine go _ (s₁.setTop (mkF m 44 #[.val (.ref a1), .val (.int p1), .val (.int p2), .val (.int p3), .val (.int p4), .val (.int p5), .val (.int (p1 - p2)), .unset, .val (.int ((jushr p4 ((7 : Int32) * (p1 - p2))) &&& (127 : Int32)))] [])) (fun t k => XS.icmpNo X0.here hx rfl (hb hby d2_41) rfl (tlt hc45).2.1 k) ?_
        refine go _ (s₁.setTop (mkF m 46 #[.val (.ref a1), .val (.int p1), .val (.int p2), .val (.int p3), .val (.int p4), .val (.int p5), .val (.int (p1 - p2)), .unset, .val (.int ((jushr p4 ((7 : Int32) * (p1 - p2))) &&& (127 : Int32)))] [(.int ((jushr p4 ((7 : Int32) * (p1 - p2))) &&& (127 : Int32)))])) (fun t k => XS.iload X0.here hx rfl (hb hby d2_44) rfl k) ?_
        refine go _ (s₁.setTop (mkF m 49 #[.val (.ref a1), .val (.int p1), .val (.int p2), .val (.int p3), .val (.int p4), .val (.int p5), .val (.int (p1 - p2)), .unset, .val (.int ((jushr p4 ((7 : Int32) * (p1 - p2))) &&& (127 : Int32)))] [(.int (128 : Int32)), (.int ((jushr p4 ((7 : Int32) * (p1 - p2))) &&& (127 : Int32)))])) (fun t k => XS.sipush X0.here hx rfl (hb hby d2_46) k) ?_
        refine go _ (s₁.setTop (mkF m 50 #[.val (.ref a1), .val (.int p1), .val (.int p2), .val (.int p3), .val (.int p4), .val (.int p5), .val (.int (p1 - p2)), .unset, .val (.int ((jushr p4 ((7 : Int32) * (p1 - p2))) &&& (127 : Int32)))] [(.int (((jushr p4 ((7 : Int32) * (p1 - p2))) &&& (127 : Int32)) ||| (128 : Int32)))])) (fun t k => XS.ior X0.here hx rfl (hb hby d2_49) rfl k) ?_
        refine go _ (s₁.setTop (mkF m 51 #[.val (.ref a1), .val (.int p1), .val (.int p2), .val (.int p3), .val (.int p4), .val (.int p5), .val (.int (p1 - p2)), .unset, .val (.int ((jushr p4 ((7 : Int32) * (p1 - p2))) &&& (127 : Int32)))] [(.int (jb (((jushr p4 ((7 : Int32) * (p1 - p2))) &&& (127 : Int32)) ||| (128 : Int32))))])) (fun t k => XS.i2b X0.here hx rfl (hb hby d2_50) rfl k) ?_
        refine go _ (s₁.setTop (mkF m 53 #[.val (.ref a1), .val (.int p1), .val (.int p2), .val (.int p3), .val (.int p4), .val (.int p5), .val (.int (p1 - p2)), .val (.int (jb (((jushr p4 ((7 : Int32) * (p1 - p2))) &&& (127 : Int32)) ||| (128 : Int32)))), .val (.int ((jushr p4 ((7 : Int32) * (p1 - p2))) &&& (127 : Int32)))] [])) (fun t k => XS.istore X0.here hx rfl (hb hby d2_51) rfl (l' := #[.val (.ref a1), .val (.int p1), .val (.int p2), .val (.int p3), .val (.int p4), .val (.int p5), .val (.int (p1 - p2)), .val (.int (jb (((jushr p4 ((7 : Int32) * (p1 - p2))) &&& (127 : Int32)) ||| (128 : Int32)))), .val (.int ((jushr p4 ((7 : Int32) * (p1 - p2))) &&& (127 : Int32)))]) rfl k) ?_
        refine go _ (s₁.setTop (mkF m 61 #[.val (.ref a1), .val (.int p1), .val (.int p2), .val (.int p3), .val (.int p4), .val (.int p5), .val (.int (p1 - p2)), .val (.int (jb (((jushr p4 ((7 : Int32) * (p1 - p2))) &&& (127 : Int32)) ||| (128 : Int32)))), .val (.int ((jushr p4 ((7 : Int32) * (p1 - p2))) &&& (127 : Int32)))] [])) (fun t k => XS.goto X0.here hx rfl (pc0 := 53) (pc' := 61) rfl (hb hby d2_53) (by decide) (by decide) k) ?_
        refine go _ (s₁.setTop (mkF m 62 #[.val (.ref a1), .val (.int p1), .val (.int p2), .val (.int p3), .val (.int p4), .val (.int p5), .val (.int (p1 - p2)), .val (.int (jb (((jushr p4 ((7 : Int32) * (p1 - p2))) &&& (127 : Int32)) ||| (128 : Int32)))), .val (.int ((jushr p4 ((7 : Int32) * (p1 - p2))) &&& (127 : Int32)))] [(.ref a1)])) (fun t k => XS.aloadN X0.here hx rfl (hb hby d2_61) rfl rfl k) ?_
        refine go _ (s₁.setTop (mkF m 63 #[.val (.ref a1), .val (.int p1), .val (.int p2), .val (.int p3), .val (.int p4), .val (.int p5), .val (.int (p1 - p2)), .val (.int (jb (((jushr p4 ((7 : Int32) * (p1 - p2))) &&& (127 : Int32)) ||| (128 : Int32)))), .val (.int ((jushr p4 ((7 : Int32) * (p1 - p2))) &&& (127 : Int32)))] [(.int p1), (.ref a1)])) (fun t k => XS.iloadN X0.here hx rfl (hb hby d2_62) rfl k) ?_
        refine go _ (s₁.setTop (mkF m 64 #[.val (.ref a1), .val (.int p1), .val (.int p2), .val (.int p3), .val (.int p4), .val (.int p5), .val (.int (p1 - p2)), .val (.int (jb (((jushr p4 ((7 : Int32) * (p1 - p2))) &&& (127 : Int32)) ||| (128 : Int32)))), .val (.int ((jushr p4 ((7 : Int32) * (p1 - p2))) &&& (127 : Int32)))] [(.int y)])) (own_ldB X0 hx hZ e0 A0 (i := i) hj hi (g := (mkF m 63 #[.val (.ref a1), .val (.int p1), .val (.int p2), .val (.int p3), .val (.int p4), .val (.int p5), .val (.int (p1 - p2)), .val (.int (jb (((jushr p4 ((7 : Int32) * (p1 - p2))) &&& (127 : Int32)) ||| (128 : Int32)))), .val (.int ((jushr p4 ((7 : Int32) * (p1 - p2))) &&& (127 : Int32)))] [(.int p1), (.ref a1)])) rfl rfl (hb hby d2_63) (v := (.int y)) hv) ?_
        refine go _ (s₁.setTop (mkF m 66 #[.val (.ref a1), .val (.int p1), .val (.int p2), .val (.int p3), .val (.int p4), .val (.int p5), .val (.int (p1 - p2)), .val (.int (jb (((jushr p4 ((7 : Int32) * (p1 - p2))) &&& (127 : Int32)) ||| (128 : Int32)))), .val (.int ((jushr p4 ((7 : Int32) * (p1 - p2))) &&& (127 : Int32)))] [(.int (jb (((jushr p4 ((7 : Int32) * (p1 - p2))) &&& (127 : Int32)) ||| (128 : Int32)))), (.int y)])) (fun t k => XS.iload X0.here hx rfl (hb hby d2_64) rfl k) ?_
        by_cases hc46 : y = (jb (((jushr p4 ((7 : Int32) * (p1 - p2))) &&& (127 : Int32)) ||| (128 : Int32)))
        · refine go _ (s₁.setTop (mkF m 69 #[.val (.ref a1), .val (.int p1), .val (.int p2), .val (.int p3), .val (.int p4), .val (.int p5), .val (.int (p1 - p2)), .val (.int (jb (((jushr p4 ((7 : Int32) * (p1 - p2))) &&& (127 : Int32)) ||| (128 : Int32)))), .val (.int ((jushr p4 ((7 : Int32) * (p1 - p2))) &&& (127 : Int32)))] [])) (fun t k => XS.icmpNo X0.here hx rfl (hb hby d2_66) rfl (teq hc46).2 k) ?_
          refine go _ (s₁.setTop (mkF m 70 #[.val (.ref a1), .val (.int p1), .val (.int p2), .val (.int p3), .val (.int p4), .val (.int p5), .val (.int (p1 - p2)), .val (.int (jb (((jushr p4 ((7 : Int32) * (p1 - p2))) &&& (127 : Int32)) ||| (128 : Int32)))), .val (.int ((jushr p4 ((7 : Int32) * (p1 - p2))) &&& (127 : Int32)))] [(.int (1 : Int32))])) (fun t k => XS.iconst X0.here hx rfl (hb hby d2_69) k) ?_
          refine go _ (s₁.setTop (mkF m 74 #[.val (.ref a1), .val (.int p1), .val (.int p2), .val (.int p3), .val (.int p4), .val (.int p5), .val (.int (p1 - p2)), .val (.int (jb (((jushr p4 ((7 : Int32) * (p1 - p2))) &&& (127 : Int32)) ||| (128 : Int32)))), .val (.int ((jushr p4 ((7 : Int32) * (p1 - p2))) &&& (127 : Int32)))] [(.int (1 : Int32))])) (fun t k => XS.goto X0.here hx rfl (pc0 := 70) (pc' := 74) rfl (hb hby d2_70) (by decide) (by decide) k) ?_
          exact fin (some (.int (1 : Int32))) X0 (by decide) (by decide) (fun q => by cases q) (show Q_rm2 Z a1 p1 p2 p3 p4 p5 f n i y h0 n0 _ s₁.heap _ from (by rw [e0]; exact ⟨congrArg some (congrArg Value.int (show (1 : Int32) = (own_at y p1 p2 p3 p4 p5) from (show (own_at y p1 p2 p3 p4 p5) = (1 : Int32) from (by unfold own_at; rw [if_neg hc42, if_pos hc44, if_pos hc45, if_pos hc46])).symm)), N0, rfl⟩)) (fun fs hr => retN X0 hx (t := .boolean) hret (by simp) (hb hby d2_74) hr)
        · refine go _ (s₁.setTop (mkF m 73 #[.val (.ref a1), .val (.int p1), .val (.int p2), .val (.int p3), .val (.int p4), .val (.int p5), .val (.int (p1 - p2)), .val (.int (jb (((jushr p4 ((7 : Int32) * (p1 - p2))) &&& (127 : Int32)) ||| (128 : Int32)))), .val (.int ((jushr p4 ((7 : Int32) * (p1 - p2))) &&& (127 : Int32)))] [])) (fun t k => XS.icmpYes X0.here hx rfl (pc0 := 66) (pc' := 73) rfl (hb hby d2_66) rfl (feq hc46).2 (by decide) (by decide) k) ?_
          refine go _ (s₁.setTop (mkF m 74 #[.val (.ref a1), .val (.int p1), .val (.int p2), .val (.int p3), .val (.int p4), .val (.int p5), .val (.int (p1 - p2)), .val (.int (jb (((jushr p4 ((7 : Int32) * (p1 - p2))) &&& (127 : Int32)) ||| (128 : Int32)))), .val (.int ((jushr p4 ((7 : Int32) * (p1 - p2))) &&& (127 : Int32)))] [(.int (0 : Int32))])) (fun t k => XS.iconst X0.here hx rfl (hb hby d2_73) k) ?_
          exact fin (some (.int (0 : Int32))) X0 (by decide) (by decide) (fun q => by cases q) (show Q_rm2 Z a1 p1 p2 p3 p4 p5 f n i y h0 n0 _ s₁.heap _ from (by rw [e0]; exact ⟨congrArg some (congrArg Value.int (show (0 : Int32) = (own_at y p1 p2 p3 p4 p5) from (show (own_at y p1 p2 p3 p4 p5) = (0 : Int32) from (by unfold own_at; rw [if_neg hc42, if_pos hc44, if_pos hc45, if_neg hc46])).symm)), N0, rfl⟩)) (fun fs hr => retN X0 hx (t := .boolean) hret (by simp) (hb hby d2_74) hr)
      · refine go _ (s₁.setTop (mkF m 56 #[.val (.ref a1), .val (.int p1), .val (.int p2), .val (.int p3), .val (.int p4), .val (.int p5), .val (.int (p1 - p2)), .unset, .val (.int ((jushr p4 ((7 : Int32) * (p1 - p2))) &&& (127 : Int32)))] [])) (fun t k => XS.icmpYes X0.here hx rfl (pc0 := 41) (pc' := 56) rfl (hb hby d2_41) rfl (flt hc45).2.1 (by decide) (by decide) k) ?_
        refine go _ (s₁.setTop (mkF m 58 #[.val (.ref a1), .val (.int p1), .val (.int p2), .val (.int p3), .val (.int p4), .val (.int p5), .val (.int (p1 - p2)), .unset, .val (.int ((jushr p4 ((7 : Int32) * (p1 - p2))) &&& (127 : Int32)))] [(.int ((jushr p4 ((7 : Int32) * (p1 - p2))) &&& (127 : Int32)))])) (fun t k => XS.iload X0.here hx rfl (hb hby d2_56) rfl k) ?_
        refine go _ (s₁.setTop (mkF m 59 #[.val (.ref a1), .val (.int p1), .val (.int p2), .val (.int p3), .val (.int p4), .val (.int p5), .val (.int (p1 - p2)), .unset, .val (.int ((jushr p4 ((7 : Int32) * (p1 - p2))) &&& (127 : Int32)))] [(.int (jb ((jushr p4 ((7 : Int32) * (p1 - p2))) &&& (127 : Int32))))])) (fun t k => XS.i2b X0.here hx rfl (hb hby d2_58) rfl k) ?_
        refine go _ (s₁.setTop (mkF m 61 #[.val (.ref a1), .val (.int p1), .val (.int p2), .val (.int p3), .val (.int p4), .val (.int p5), .val (.int (p1 - p2)), .val (.int (jb ((jushr p4 ((7 : Int32) * (p1 - p2))) &&& (127 : Int32)))), .val (.int ((jushr p4 ((7 : Int32) * (p1 - p2))) &&& (127 : Int32)))] [])) (fun t k => XS.istore X0.here hx rfl (hb hby d2_59) rfl (l' := #[.val (.ref a1), .val (.int p1), .val (.int p2), .val (.int p3), .val (.int p4), .val (.int p5), .val (.int (p1 - p2)), .val (.int (jb ((jushr p4 ((7 : Int32) * (p1 - p2))) &&& (127 : Int32)))), .val (.int ((jushr p4 ((7 : Int32) * (p1 - p2))) &&& (127 : Int32)))]) rfl k) ?_
        refine go _ (s₁.setTop (mkF m 62 #[.val (.ref a1), .val (.int p1), .val (.int p2), .val (.int p3), .val (.int p4), .val (.int p5), .val (.int (p1 - p2)), .val (.int (jb ((jushr p4 ((7 : Int32) * (p1 - p2))) &&& (127 : Int32)))), .val (.int ((jushr p4 ((7 : Int32) * (p1 - p2))) &&& (127 : Int32)))] [(.ref a1)])) (fun t k => XS.aloadN X0.here hx rfl (hb hby d2_61) rfl rfl k) ?_
        refine go _ (s₁.setTop (mkF m 63 #[.val (.ref a1), .val (.int p1), .val (.int p2), .val (.int p3), .val (.int p4), .val (.int p5), .val (.int (p1 - p2)), .val (.int (jb ((jushr p4 ((7 : Int32) * (p1 - p2))) &&& (127 : Int32)))), .val (.int ((jushr p4 ((7 : Int32) * (p1 - p2))) &&& (127 : Int32)))] [(.int p1), (.ref a1)])) (fun t k => XS.iloadN X0.here hx rfl (hb hby d2_62) rfl k) ?_
        refine go _ (s₁.setTop (mkF m 64 #[.val (.ref a1), .val (.int p1), .val (.int p2), .val (.int p3), .val (.int p4), .val (.int p5), .val (.int (p1 - p2)), .val (.int (jb ((jushr p4 ((7 : Int32) * (p1 - p2))) &&& (127 : Int32)))), .val (.int ((jushr p4 ((7 : Int32) * (p1 - p2))) &&& (127 : Int32)))] [(.int y)])) (own_ldB X0 hx hZ e0 A0 (i := i) hj hi (g := (mkF m 63 #[.val (.ref a1), .val (.int p1), .val (.int p2), .val (.int p3), .val (.int p4), .val (.int p5), .val (.int (p1 - p2)), .val (.int (jb ((jushr p4 ((7 : Int32) * (p1 - p2))) &&& (127 : Int32)))), .val (.int ((jushr p4 ((7 : Int32) * (p1 - p2))) &&& (127 : Int32)))] [(.int p1), (.ref a1)])) rfl rfl (hb hby d2_63) (v := (.int y)) hv) ?_
        refine go _ (s₁.setTop (mkF m 66 #[.val (.ref a1), .val (.int p1), .val (.int p2), .val (.int p3), .val (.int p4), .val (.int p5), .val (.int (p1 - p2)), .val (.int (jb ((jushr p4 ((7 : Int32) * (p1 - p2))) &&& (127 : Int32)))), .val (.int ((jushr p4 ((7 : Int32) * (p1 - p2))) &&& (127 : Int32)))] [(.int (jb ((jushr p4 ((7 : Int32) * (p1 - p2))) &&& (127 : Int32)))), (.int y)])) (fun t k => XS.iload X0.here hx rfl (hb hby d2_64) rfl k) ?_
        by_cases hc47 : y = (jb ((jushr p4 ((7 : Int32) * (p1 - p2))) &&& (127 : Int32)))
        · refine go _ (s₁.setTop (mkF m 69 #[.val (.ref a1), .val (.int p1), .val (.int p2), .val (.int p3), .val (.int p4), .val (.int p5), .val (.int (p1 - p2)), .val (.int (jb ((jushr p4 ((7 : Int32) * (p1 - p2))) &&& (127 : Int32)))), .val (.int ((jushr p4 ((7 : Int32) * (p1 - p2))) &&& (127 : Int32)))] [])) (fun t k => XS.icmpNo X0.here hx rfl (hb hby d2_66) rfl (teq hc47).2 k) ?_
          refine go _ (s₁.setTop (mkF m 70 #[.val (.ref a1), .val (.int p1), .val (.int p2), .val (.int p3), .val (.int p4), .val (.int p5), .val (.int (p1 - p2)), .val (.int (jb ((jushr p4 ((7 : Int32) * (p1 - p2))) &&& (127 : Int32)))), .val (.int ((jushr p4 ((7 : Int32) * (p1 - p2))) &&& (127 : Int32)))] [(.int (1 : Int32))])) (fun t k => XS.iconst X0.here hx rfl (hb hby d2_69) k) ?_
          refine go _ (s₁.setTop (mkF m 74 #[.val (.ref a1), .val (.int p1), .val (.int p2), .val (.int p3), .val (.int p4), .val (.int p5), .val (.int (p1 - p2)), .val (.int (jb ((jushr p4 ((7 : Int32) * (p1 - p2))) &&& (127 : Int32)))), .val (.int ((jushr p4 ((7 : Int32) * (p1 - p2))) &&& (127 : Int32)))] [(.int (1 : Int32))])) (fun t k => XS.goto X0.here hx rfl (pc0 := 70) (pc' := 74) rfl (hb hby d2_70) (by decide) (by decide) k) ?_
          exact fin (some (.int (1 : Int32))) X0 (by decide) (by decide) (fun q => by cases q) (show Q_rm2 Z a1 p1 p2 p3 p4 p5 f n i y h0 n0 _ s₁.heap _ from (by rw [e0]; exact ⟨congrArg some (congrArg Value.int (show (1 : Int32) = (own_at y p1 p2 p3 p4 p5) from (show (own_at y p1 p2 p3 p4 p5) = (1 : Int32) from (by unfold own_at; rw [if_neg hc42, if_pos hc44, if_neg hc45, if_pos hc47])).symm)), N0, rfl⟩)) (fun fs hr => retN X0 hx (t := .boolean) hret (by simp) (hb hby d2_74) hr)
        · refine go _ (s₁.setTop (mkF m 73 #[.val (.ref a1), .val (.int p1), .val (.int p2), .val (.int p3), .val (.int p4), .val (.int p5), .val (.int (p1 - p2)), .val (.int (jb ((jushr p4 ((7 : Int32) * (p1 - p2))) &&& (127 : Int32)))), .val (.int ((jushr p4 ((7 : Int32) * (p1 - p2))) &&& (127 : Int32)))] [])) (fun t k => XS.icmpYes X0.here hx rfl (pc0 := 66) (pc' := 73) rfl (hb hby d2_66) rfl (feq hc47).2 (by decide) (by decide) k) ?_
          refine go _ (s₁.setTop (mkF m 74 #[.val (.ref a1), .val (.int p1), .val (.int p2), .val (.int p3), .val (.int p4), .val (.int p5), .val (.int (p1 - p2)), .val (.int (jb ((jushr p4 ((7 : Int32) * (p1 - p2))) &&& (127 : Int32)))), .val (.int ((jushr p4 ((7 : Int32) * (p1 - p2))) &&& (127 : Int32)))] [(.int (0 : Int32))])) (fun t k => XS.iconst X0.here hx rfl (hb hby d2_73) k) ?_
          exact fin (some (.int (0 : Int32))) X0 (by decide) (by decide) (fun q => by cases q) (show Q_rm2 Z a1 p1 p2 p3 p4 p5 f n i y h0 n0 _ s₁.heap _ from (by rw [e0]; exact ⟨congrArg some (congrArg Value.int (show (0 : Int32) = (own_at y p1 p2 p3 p4 p5) from (show (own_at y p1 p2 p3 p4 p5) = (0 : Int32) from (by unfold own_at; rw [if_neg hc42, if_pos hc44, if_neg hc45, if_neg hc47])).symm)), N0, rfl⟩)) (fun fs hr => retN X0 hx (t := .boolean) hret (by simp) (hb hby d2_74) hr)
    · refine go _ (s₁.setTop (mkF m 16 #[.val (.ref a1), .val (.int p1), .val (.int p2), .val (.int p3), .val (.int p4), .val (.int p5), .val (.int (p1 - p2)), .unset, .unset] [])) (fun t k => XS.icmpNo X0.here hx rfl (hb hby d2_13) rfl (flt hc44).1 k) ?_
      refine go _ (s₁.setTop (mkF m 18 #[.val (.ref a1), .val (.int p1), .val (.int p2), .val (.int p3), .val (.int p4), .val (.int p5), .val (.int (p1 - p2)), .unset, .unset] [(.int p5)])) (fun t k => XS.iload X0.here hx rfl (hb hby d2_16) rfl k) ?_
      refine go _ (s₁.setTop (mkF m 20 #[.val (.ref a1), .val (.int p1), .val (.int p2), .val (.int p3), .val (.int p4), .val (.int p5), .val (.int (p1 - p2)), .val (.int p5), .unset] [])) (fun t k => XS.istore X0.here hx rfl (hb hby d2_18) rfl (l' := #[.val (.ref a1), .val (.int p1), .val (.int p2), .val (.int p3), .val (.int p4), .val (.int p5), .val (.int (p1 - p2)), .val (.int p5), .unset]) rfl k) ?_
      refine go _ (s₁.setTop (mkF m 61 #[.val (.ref a1), .val (.int p1), .val (.int p2), .val (.int p3), .val (.int p4), .val (.int p5), .val (.int (p1 - p2)), .val (.int p5), .unset] [])) (fun t k => XS.goto X0.here hx rfl (pc0 := 20) (pc' := 61) rfl (hb hby d2_20) (by decide) (by decide) k) ?_
      refine go _ (s₁.setTop (mkF m 62 #[.val (.ref a1), .val (.int p1), .val (.int p2), .val (.int p3), .val (.int p4), .val (.int p5), .val (.int (p1 - p2)), .val (.int p5), .unset] [(.ref a1)])) (fun t k => XS.aloadN X0.here hx rfl (hb hby d2_61) rfl rfl k) ?_
      refine go _ (s₁.setTop (mkF m 63 #[.val (.ref a1), .val (.int p1), .val (.int p2), .val (.int p3), .val (.int p4), .val (.int p5), .val (.int (p1 - p2)), .val (.int p5), .unset] [(.int p1), (.ref a1)])) (fun t k => XS.iloadN X0.here hx rfl (hb hby d2_62) rfl k) ?_
      refine go _ (s₁.setTop (mkF m 64 #[.val (.ref a1), .val (.int p1), .val (.int p2), .val (.int p3), .val (.int p4), .val (.int p5), .val (.int (p1 - p2)), .val (.int p5), .unset] [(.int y)])) (own_ldB X0 hx hZ e0 A0 (i := i) hj hi (g := (mkF m 63 #[.val (.ref a1), .val (.int p1), .val (.int p2), .val (.int p3), .val (.int p4), .val (.int p5), .val (.int (p1 - p2)), .val (.int p5), .unset] [(.int p1), (.ref a1)])) rfl rfl (hb hby d2_63) (v := (.int y)) hv) ?_
      refine go _ (s₁.setTop (mkF m 66 #[.val (.ref a1), .val (.int p1), .val (.int p2), .val (.int p3), .val (.int p4), .val (.int p5), .val (.int (p1 - p2)), .val (.int p5), .unset] [(.int p5), (.int y)])) (fun t k => XS.iload X0.here hx rfl (hb hby d2_64) rfl k) ?_
      by_cases hc48 : y = p5
      · refine go _ (s₁.setTop (mkF m 69 #[.val (.ref a1), .val (.int p1), .val (.int p2), .val (.int p3), .val (.int p4), .val (.int p5), .val (.int (p1 - p2)), .val (.int p5), .unset] [])) (fun t k => XS.icmpNo X0.here hx rfl (hb hby d2_66) rfl (teq hc48).2 k) ?_
        refine go _ (s₁.setTop (mkF m 70 #[.val (.ref a1), .val (.int p1), .val (.int p2), .val (.int p3), .val (.int p4), .val (.int p5), .val (.int (p1 - p2)), .val (.int p5), .unset] [(.int (1 : Int32))])) (fun t k => XS.iconst X0.here hx rfl (hb hby d2_69) k) ?_
        refine go _ (s₁.setTop (mkF m 74 #[.val (.ref a1), .val (.int p1), .val (.int p2), .val (.int p3), .val (.int p4), .val (.int p5), .val (.int (p1 - p2)), .val (.int p5), .unset] [(.int (1 : Int32))])) (fun t k => XS.goto X0.here hx rfl (pc0 := 70) (pc' := 74) rfl (hb hby d2_70) (by decide) (by decide) k) ?_
        exact fin (some (.int (1 : Int32))) X0 (by decide) (by decide) (fun q => by cases q) (show Q_rm2 Z a1 p1 p2 p3 p4 p5 f n i y h0 n0 _ s₁.heap _ from (by rw [e0]; exact ⟨congrArg some (congrArg Value.int (show (1 : Int32) = (own_at y p1 p2 p3 p4 p5) from (show (own_at y p1 p2 p3 p4 p5) = (1 : Int32) from (by unfold own_at; rw [if_neg hc42, if_neg hc44, if_pos hc48])).symm)), N0, rfl⟩)) (fun fs hr => retN X0 hx (t := .boolean) hret (by simp) (hb hby d2_74) hr)
      · refine go _ (s₁.setTop (mkF m 73 #[.val (.ref a1), .val (.int p1), .val (.int p2), .val (.int p3), .val (.int p4), .val (.int p5), .val (.int (p1 - p2)), .val (.int p5), .unset] [])) (fun t k => XS.icmpYes X0.here hx rfl (pc0 := 66) (pc' := 73) rfl (hb hby d2_66) rfl (feq hc48).2 (by decide) (by decide) k) ?_
        refine go _ (s₁.setTop (mkF m 74 #[.val (.ref a1), .val (.int p1), .val (.int p2), .val (.int p3), .val (.int p4), .val (.int p5), .val (.int (p1 - p2)), .val (.int p5), .unset] [(.int (0 : Int32))])) (fun t k => XS.iconst X0.here hx rfl (hb hby d2_73) k) ?_
        exact fin (some (.int (0 : Int32))) X0 (by decide) (by decide) (fun q => by cases q) (show Q_rm2 Z a1 p1 p2 p3 p4 p5 f n i y h0 n0 _ s₁.heap _ from (by rw [e0]; exact ⟨congrArg some (congrArg Value.int (show (0 : Int32) = (own_at y p1 p2 p3 p4 p5) from (show (own_at y p1 p2 p3 p4 p5) = (0 : Int32) from (by unfold own_at; rw [if_neg hc42, if_neg hc44, if_neg hc48])).symm)), N0, rfl⟩)) (fun fs hr => retN X0 hx (t := .boolean) hret (by simp) (hb hby d2_74) hr)
theorem ef_rm0 (m : MethodId) (p1 : Int32) (p2 : Int32) (p3 : Int32) (p4 : Int32) : entryFrame m #[(.int p1), (.int p2), (.int p3), (.int p4)] maxLocals = mkF m 0 #[.val (.int p1), .val (.int p2), .val (.int p3), .val (.int p4), .unset, .unset, .unset, .unset, .unset, .unset] [] := by first | (simp [entryFrame, mkF, argsToLocals, Value.category, maxLocals]; done) | rfl
def v_rm0_0 (p1 : Int32) (p2 : Int32) : Int32 := (jushr (p1 &&& (2147483647 : Int32)) (p2 &&& (31 : Int32)))
def v_rm0_1 (p3 : Int32) (p1 : Int32) (p2 : Int32) : Int32 := (own_end (p3 &&& (7 : Int32)) (v_rm0_0 p1 p2))
theorem own_ix (p : Int32) : ∃ i : Nat, i ≤ 7 ∧ (p &&& (7 : Int32)).toInt = (i : Int) := by
  have m := c_mask p 7 3 (by decide) (by decide +kernel)
  exact ⟨(p &&& (7 : Int32)).toInt.toNat, by omega, by omega⟩
theorem own_lenpos (p1 p2 : Int32) : 0 ≤ (v_rm0_0 p1 p2).toInt := by
  have m := c_mask p1 2147483647 31 (by decide) (by decide +kernel)
  have h : 0 ≤ (p1 &&& (2147483647 : Int32)).toInt := by omega
  exact (own_ushr_any _ _ h).1
def own_cnt (y : Int32) : Int32 := if y < (128 : Int32) then (1 : Int32) else if y < (16384 : Int32) then (2 : Int32) else if y < (2097152 : Int32) then (3 : Int32) else if y < (268435456 : Int32) then (4 : Int32) else (5 : Int32)
theorem own_mod256 (x : Int32) : x.toInt % 256 = ((x.toBitVec.toNat % 256 : Nat) : Int) := by
  have a1 : x.toInt = if 2 * x.toBitVec.toNat < 2 ^ 32 then (x.toBitVec.toNat : Int) else (x.toBitVec.toNat : Int) - ((2 ^ 32 : Nat) : Int) := BitVec.toInt_eq_toNat_cond x.toBitVec
  generalize x.toBitVec.toNat = n at *
  split at a1 <;> omega
theorem own_or128 (x : Int32) : (x ||| (128 : Int32)).toInt % 256 = x.toInt % 128 + 128 := by
  have h : ∀ a : Fin 256, (a.val ||| 128) % 256 = a.val % 128 + 128 := by decide +kernel
  have e : (x ||| (128 : Int32)).toBitVec.toNat = x.toBitVec.toNat ||| 128 := by
    show (x.toBitVec ||| (128 : Int32).toBitVec).toNat = _
    rw [BitVec.toNat_or]; rfl
  have t : (x.toBitVec.toNat ||| 128) % 256 = (x.toBitVec.toNat % 256 ||| 128) % 256 := by
    rw [show (256 : Nat) = 2 ^ 8 from rfl, Nat.or_mod_two_pow, Nat.or_mod_two_pow (a := x.toBitVec.toNat % 2 ^ 8), Nat.mod_mod]
  have q := h ⟨x.toBitVec.toNat % 256, Nat.mod_lt _ (by decide)⟩
  have m := own_mod256 x
  rw [own_mod256, e, t, q]
  dsimp only
  omega
theorem own_jb (x : Int32) : (jb x).toInt % 256 = x.toInt % 256 ∧ -128 ≤ (jb x).toInt ∧ (jb x).toInt < 128 := by
  have b := c_i2b x
  have e : (jb x).toInt = x.toInt8.toInt32.toInt := rfl
  omega
theorem own_hi (x : Int32) : jb (x ||| (128 : Int32)) < (0 : Int32) ∧ (jb (x ||| (128 : Int32)) &&& (127 : Int32)).toInt = x.toInt % 128 := by
  have b := own_jb (x ||| (128 : Int32))
  have o := own_or128 x
  have m := c_mask (jb (x ||| (128 : Int32))) 127 7 (by decide) (by decide +kernel)
  have e0 : (0 : Int32).toInt = 0 := by decide
  refine ⟨?_, ?_⟩
  · rw [Int32.lt_iff_toInt_lt, e0]; omega
  · rw [m]; omega
theorem own_lo (x : Int32) (h0 : 0 ≤ x.toInt) (h1 : x.toInt < 128) : ¬ (jb x < (0 : Int32)) ∧ (jb x &&& (127 : Int32)).toInt = x.toInt := by
  have b := own_jb x
  have m := c_mask (jb x) 127 7 (by decide) (by decide +kernel)
  have e0 : (0 : Int32).toInt = 0 := by decide
  refine ⟨?_, ?_⟩
  · rw [Int32.lt_iff_toInt_lt, e0]; omega
  · rw [m]; omega
theorem own_same8 (a b : Int32) (h : a.toInt % 256 = b.toInt % 256) : jb a = jb b := by
  have p := own_jb a
  have q := own_jb b
  rw [← Int32.toInt_inj]
  omega
theorem own_m127 (r : Int32) : (r &&& (127 : Int32)).toInt = r.toInt % 128 := by
  have m := c_mask r 127 7 (by decide) (by decide +kernel)
  rw [m]; omega
theorem own_eqh (r : Int32) : jb (r ||| (128 : Int32)) = jb ((r &&& (127 : Int32)) ||| (128 : Int32)) := by
  apply own_same8
  rw [own_or128, own_or128, own_m127]
  omega
theorem own_eql (r : Int32) (h0 : 0 ≤ r.toInt) (h1 : r.toInt < 128) : jb r = jb (r &&& (127 : Int32)) := by
  apply own_same8
  rw [own_m127]
  omega
theorem own_sh0 (y : Int32) : jushr y ((7 : Int32) * (0 : Int32)) = y := by
  apply Int32.toBitVec_inj.mp
  show y.toBitVec >>> (0 : Nat) = y.toBitVec
  rfl
theorem own_sh1 (y : Int32) : jushr y ((7 : Int32) * (1 : Int32)) = (jushr y (7 : Int32)) := by
  have c : (jushr y ((7 : Int32) * (1 : Int32))).toInt = _ := c_iushr y ((7 : Int32) * (1 : Int32)) 7 (by decide +kernel) (by decide)
  have r := rng32 y
  rw [← Int32.toInt_inj, c]
  simp only [own_iu7]
  omega
theorem own_sh2 (y : Int32) : jushr y ((7 : Int32) * (2 : Int32)) = (jushr (jushr y (7 : Int32)) (7 : Int32)) := by
  have c : (jushr y ((7 : Int32) * (2 : Int32))).toInt = _ := c_iushr y ((7 : Int32) * (2 : Int32)) 14 (by decide +kernel) (by decide)
  have r := rng32 y
  rw [← Int32.toInt_inj, c]
  simp only [own_iu7]
  omega
theorem own_sh3 (y : Int32) : jushr y ((7 : Int32) * (3 : Int32)) = (jushr (jushr (jushr y (7 : Int32)) (7 : Int32)) (7 : Int32)) := by
  have c : (jushr y ((7 : Int32) * (3 : Int32))).toInt = _ := c_iushr y ((7 : Int32) * (3 : Int32)) 21 (by decide +kernel) (by decide)
  have r := rng32 y
  rw [← Int32.toInt_inj, c]
  simp only [own_iu7]
  omega
theorem own_sh4 (y : Int32) : jushr y ((7 : Int32) * (4 : Int32)) = (jushr (jushr (jushr (jushr y (7 : Int32)) (7 : Int32)) (7 : Int32)) (7 : Int32)) := by
  have c : (jushr y ((7 : Int32) * (4 : Int32))).toInt = _ := c_iushr y ((7 : Int32) * (4 : Int32)) 28 (by decide +kernel) (by decide)
  have r := rng32 y
  rw [← Int32.toInt_inj, c]
  simp only [own_iu7]
  omega
theorem own_endq (o y nn : Int32) (hy : 0 ≤ y.toInt) (hn : nn = own_cnt y) : own_end o y = o + nn := by
  have r := rng32 y
  have e0 : (128 : Int32).toInt = 128 := by decide
  have e1 : (16384 : Int32).toInt = 16384 := by decide
  have e2 : (2097152 : Int32).toInt = 2097152 := by decide
  have e3 : (268435456 : Int32).toInt = 268435456 := by decide
  have t1 := own_iu7 y
  have t2 := own_iu7 (jushr y 7)
  have t3 := own_iu7 (jushr (jushr y 7) 7)
  have t4 := own_iu7 (jushr (jushr (jushr y 7) 7) 7)
  by_cases c0 : y < (128 : Int32)
  · have d0 := c0
    rw [Int32.lt_iff_toInt_lt, e0] at d0
    have hc : own_cnt y = (1 : Int32) := by
      unfold own_cnt
      rw [if_pos (by rw [Int32.lt_iff_toInt_lt, e0]; omega)]
    rw [hn, hc]
    unfold own_end
    rw [if_pos c0]
  · have d0 := c0
    rw [Int32.lt_iff_toInt_lt, e0] at d0
    by_cases c1 : (jushr y (7 : Int32)) < (128 : Int32)
    · have d1 := c1
      rw [Int32.lt_iff_toInt_lt, e0] at d1
      have hc : own_cnt y = (2 : Int32) := by
        unfold own_cnt
        rw [if_neg (by rw [Int32.lt_iff_toInt_lt, e0]; omega), if_pos (by rw [Int32.lt_iff_toInt_lt, e1]; omega)]
      rw [hn, hc]
      unfold own_end
      rw [if_neg c0, if_pos c1]
      rw [Int32.add_assoc]
      exact congrArg (o + ·) (by decide)
    · have d1 := c1
      rw [Int32.lt_iff_toInt_lt, e0] at d1
      by_cases c2 : (jushr (jushr y (7 : Int32)) (7 : Int32)) < (128 : Int32)
      · have d2 := c2
        rw [Int32.lt_iff_toInt_lt, e0] at d2
        have hc : own_cnt y = (3 : Int32) := by
          unfold own_cnt
          rw [if_neg (by rw [Int32.lt_iff_toInt_lt, e0]; omega), if_neg (by rw [Int32.lt_iff_toInt_lt, e1]; omega), if_pos (by rw [Int32.lt_iff_toInt_lt, e2]; omega)]
        rw [hn, hc]
        unfold own_end
        rw [if_neg c0, if_neg c1, if_pos c2]
        rw [Int32.add_assoc, Int32.add_assoc]
        exact congrArg (o + ·) (by decide)
      · have d2 := c2
        rw [Int32.lt_iff_toInt_lt, e0] at d2
        by_cases c3 : (jushr (jushr (jushr y (7 : Int32)) (7 : Int32)) (7 : Int32)) < (128 : Int32)
        · have d3 := c3
          rw [Int32.lt_iff_toInt_lt, e0] at d3
          have hc : own_cnt y = (4 : Int32) := by
            unfold own_cnt
            rw [if_neg (by rw [Int32.lt_iff_toInt_lt, e0]; omega), if_neg (by rw [Int32.lt_iff_toInt_lt, e1]; omega), if_neg (by rw [Int32.lt_iff_toInt_lt, e2]; omega), if_pos (by rw [Int32.lt_iff_toInt_lt, e3]; omega)]
          rw [hn, hc]
          unfold own_end
          rw [if_neg c0, if_neg c1, if_neg c2, if_pos c3]
          rw [Int32.add_assoc, Int32.add_assoc, Int32.add_assoc]
          exact congrArg (o + ·) (by decide)
        · have d3 := c3
          rw [Int32.lt_iff_toInt_lt, e0] at d3
          have hc : own_cnt y = (5 : Int32) := by
            unfold own_cnt
            rw [if_neg (by rw [Int32.lt_iff_toInt_lt, e0]; omega), if_neg (by rw [Int32.lt_iff_toInt_lt, e1]; omega), if_neg (by rw [Int32.lt_iff_toInt_lt, e2]; omega), if_neg (by rw [Int32.lt_iff_toInt_lt, e3]; omega)]
          rw [hn, hc]
          unfold own_end
          rw [if_neg c0, if_neg c1, if_neg c2, if_neg c3]
          rw [Int32.add_assoc, Int32.add_assoc, Int32.add_assoc, Int32.add_assoc]
          exact congrArg (o + ·) (by decide)
theorem own_nlt {i j q : Nat} (a : j < i) : j ≠ i + q := by omega
theorem own_ngt {i j k q : Nat} (a : i + k < j) (h : q ≤ k) : j ≠ i + q := by omega
theorem own_nd {i a b : Nat} (h : a ≠ b) : i + a ≠ i + b := by omega
theorem own_dif {o pj : Int32} {i j : Nat} (hj : o.toInt = (i : Int)) (hi : i ≤ 7) (hpj : pj.toInt = (j : Int)) (hj13 : j < 13) : (pj - o).toInt = (j : Int) - (i : Int) := by
  have hs := c_isub pj o
  have hr := rng32 (pj - o)
  omega
theorem own_dneg {o pj : Int32} {i j : Nat} (hd : (pj - o).toInt = (j : Int) - (i : Int)) (a : j < i) : (pj - o) < (0 : Int32) := by
  rw [Int32.lt_iff_toInt_lt, hd, show (0 : Int32).toInt = 0 from by decide]; omega
theorem own_dpos {o pj : Int32} {i j : Nat} (hd : (pj - o).toInt = (j : Int) - (i : Int)) (a : ¬ j < i) : ¬ ((pj - o) < (0 : Int32)) := by
  rw [Int32.lt_iff_toInt_lt, hd, show (0 : Int32).toInt = 0 from by decide]; omega
theorem own_dge {o pj c : Int32} {i j k : Nat} (hd : (pj - o).toInt = (j : Int) - (i : Int)) (hc : c.toInt = ((k + 1 : Nat) : Int)) (a : i + k < j) : ¬ ((pj - o) < c) := by
  rw [Int32.lt_iff_toInt_lt, hd, hc]; omega
theorem own_deq {o pj c : Int32} {i j t : Nat} (hd : (pj - o).toInt = (j : Int) - (i : Int)) (hc : c.toInt = (t : Int)) (e : j = i + t) : pj - o = c := by
  rw [← Int32.toInt_inj, hd, hc]; omega
theorem own_cs0 {i j : Nat} (a : ¬ j < i) (b : ¬ i + 0 < j) : j = i + 0 := by omega
theorem own_cs1 {i j : Nat} (a : ¬ j < i) (b : ¬ i + 1 < j) : j = i + 0 ∨ j = i + 1 := by omega
theorem own_cs2 {i j : Nat} (a : ¬ j < i) (b : ¬ i + 2 < j) : j = i + 0 ∨ j = i + 1 ∨ j = i + 2 := by omega
theorem own_cs3 {i j : Nat} (a : ¬ j < i) (b : ¬ i + 3 < j) : j = i + 0 ∨ j = i + 1 ∨ j = i + 2 ∨ j = i + 3 := by omega
theorem own_cs4 {i j : Nat} (a : ¬ j < i) (b : ¬ i + 4 < j) : j = i + 0 ∨ j = i + 1 ∨ j = i + 2 ∨ j = i + 3 ∨ j = i + 4 := by omega
theorem own_atok {o y nn : Int32} {i : Nat} (fill : Int32) (hj : o.toInt = (i : Int)) (hi : i ≤ 7) (hy : 0 ≤ y.toInt) (hn : nn = own_cnt y) (j : Nat) (pj : Int32) (hpj : pj.toInt = (j : Int)) (hj13 : j < 13) :
    ∃ z : Int32, own_wr (fun _ => .int fill) i y j = .int z ∧ own_at z pj o nn y fill = (1 : Int32) := by
  have hd := own_dif hj hi hpj hj13
  clear hj hi hpj hj13
  have r := rng32 y
  have e0 : (128 : Int32).toInt = 128 := by decide
  have e1 : (16384 : Int32).toInt = 16384 := by decide
  have e2 : (2097152 : Int32).toInt = 2097152 := by decide
  have e3 : (268435456 : Int32).toInt = 268435456 := by decide
  have t1 := own_iu7 y
  have t2 := own_iu7 (jushr y 7)
  have t3 := own_iu7 (jushr (jushr y 7) 7)
  have t4 := own_iu7 (jushr (jushr (jushr y 7) 7) 7)
  by_cases c0 : y < (128 : Int32)
  · have d0 := c0
    rw [Int32.lt_iff_toInt_lt, e0] at d0
    have hc : own_cnt y = (1 : Int32) := by
      unfold own_cnt
      rw [if_pos (by rw [Int32.lt_iff_toInt_lt, e0]; omega)]
    have hr : 0 ≤ y.toInt ∧ y.toInt < 128 := by omega
    clear t1 t2 t3 t4 e0 e1 e2 e3 r
    have hw : own_wr (fun _ => .int fill) i y = (own_upd (fun _ => .int fill) (i + 0) (.int (jb y))) := by unfold own_wr; rw [if_pos c0]; rfl
    rw [hw, hn, hc]
    by_cases a : j < i
    · refine ⟨fill, by rw [own_miss (own_nlt a)], ?_⟩
      unfold own_at
      rw [if_pos (own_dneg hd a), if_pos rfl]
    · by_cases a2 : i + 0 < j
      · refine ⟨fill, by rw [own_miss (own_ngt a2 (by decide))], ?_⟩
        unfold own_at
        rw [if_neg (own_dpos hd a), if_neg (own_dge (k := 0) hd (by decide) a2), if_pos rfl]
      · have cs := own_cs0 a a2
        have he : pj - o = (0 : Int32) := own_deq (t := 0) hd (by decide) cs
        refine ⟨(jb y), by rw [cs, own_hit], ?_⟩
        unfold own_at
        rw [he, own_sh0, if_neg (by decide), if_pos (by decide), if_neg (by decide), if_pos (own_eql _ hr.1 hr.2)]
  · have d0 := c0
    rw [Int32.lt_iff_toInt_lt, e0] at d0
    by_cases c1 : (jushr y (7 : Int32)) < (128 : Int32)
    · have d1 := c1
      rw [Int32.lt_iff_toInt_lt, e0] at d1
      have hc : own_cnt y = (2 : Int32) := by
        unfold own_cnt
        rw [if_neg (by rw [Int32.lt_iff_toInt_lt, e0]; omega), if_pos (by rw [Int32.lt_iff_toInt_lt, e1]; omega)]
      have hr : 0 ≤ (jushr y (7 : Int32)).toInt ∧ (jushr y (7 : Int32)).toInt < 128 := by omega
      clear t1 t2 t3 t4 e0 e1 e2 e3 r
      have hw : own_wr (fun _ => .int fill) i y = (own_upd (own_upd (fun _ => .int fill) (i + 0) (.int (jb (y ||| (128 : Int32))))) (i + 1) (.int (jb (jushr y (7 : Int32))))) := by unfold own_wr; rw [if_neg c0, if_pos c1]; rfl
      rw [hw, hn, hc]
      by_cases a : j < i
      · refine ⟨fill, by rw [own_miss (own_nlt a), own_miss (own_nlt a)], ?_⟩
        unfold own_at
        rw [if_pos (own_dneg hd a), if_pos rfl]
      · by_cases a2 : i + 1 < j
        · refine ⟨fill, by rw [own_miss (own_ngt a2 (by decide)), own_miss (own_ngt a2 (by decide))], ?_⟩
          unfold own_at
          rw [if_neg (own_dpos hd a), if_neg (own_dge (k := 1) hd (by decide) a2), if_pos rfl]
        · have cs := own_cs1 a a2
          rcases cs with cs | cs
          · have he : pj - o = (0 : Int32) := own_deq (t := 0) hd (by decide) cs
            refine ⟨(jb (y ||| (128 : Int32))), by rw [cs, own_miss (own_nd (by decide)), own_hit], ?_⟩
            unfold own_at
            rw [he, own_sh0, if_neg (by decide), if_pos (by decide), if_pos (by decide), if_pos (own_eqh _)]
          · have he : pj - o = (1 : Int32) := own_deq (t := 1) hd (by decide) cs
            refine ⟨(jb (jushr y (7 : Int32))), by rw [cs, own_hit], ?_⟩
            unfold own_at
            rw [he, own_sh1, if_neg (by decide), if_pos (by decide), if_neg (by decide), if_pos (own_eql _ hr.1 hr.2)]
    · have d1 := c1
      rw [Int32.lt_iff_toInt_lt, e0] at d1
      by_cases c2 : (jushr (jushr y (7 : Int32)) (7 : Int32)) < (128 : Int32)
      · have d2 := c2
        rw [Int32.lt_iff_toInt_lt, e0] at d2
        have hc : own_cnt y = (3 : Int32) := by
          unfold own_cnt
          rw [if_neg (by rw [Int32.lt_iff_toInt_lt, e0]; omega), if_neg (by rw [Int32.lt_iff_toInt_lt, e1]; omega), if_pos (by rw [Int32.lt_iff_toInt_lt, e2]; omega)]
        have hr : 0 ≤ (jushr (jushr y (7 : Int32)) (7 : Int32)).toInt ∧ (jushr (jushr y (7 : Int32)) (7 : Int32)).toInt < 128 := by omega
        clear t1 t2 t3 t4 e0 e1 e2 e3 r
        have hw : own_wr (fun _ => .int fill) i y = (own_upd (own_upd (own_upd (fun _ => .int fill) (i + 0) (.int (jb (y ||| (128 : Int32))))) (i + 1) (.int (jb ((jushr y (7 : Int32)) ||| (128 : Int32))))) (i + 2) (.int (jb (jushr (jushr y (7 : Int32)) (7 : Int32))))) := by unfold own_wr; rw [if_neg c0, if_neg c1, if_pos c2]; rfl
        rw [hw, hn, hc]
        by_cases a : j < i
        · refine ⟨fill, by rw [own_miss (own_nlt a), own_miss (own_nlt a), own_miss (own_nlt a)], ?_⟩
          unfold own_at
          rw [if_pos (own_dneg hd a), if_pos rfl]
        · by_cases a2 : i + 2 < j
          · refine ⟨fill, by rw [own_miss (own_ngt a2 (by decide)), own_miss (own_ngt a2 (by decide)), own_miss (own_ngt a2 (by decide))], ?_⟩
            unfold own_at
            rw [if_neg (own_dpos hd a), if_neg (own_dge (k := 2) hd (by decide) a2), if_pos rfl]
          · have cs := own_cs2 a a2
            rcases cs with cs | cs | cs
            · have he : pj - o = (0 : Int32) := own_deq (t := 0) hd (by decide) cs
              refine ⟨(jb (y ||| (128 : Int32))), by rw [cs, own_miss (own_nd (by decide)), own_miss (own_nd (by decide)), own_hit], ?_⟩
              unfold own_at
              rw [he, own_sh0, if_neg (by decide), if_pos (by decide), if_pos (by decide), if_pos (own_eqh _)]
            · have he : pj - o = (1 : Int32) := own_deq (t := 1) hd (by decide) cs
              refine ⟨(jb ((jushr y (7 : Int32)) ||| (128 : Int32))), by rw [cs, own_miss (own_nd (by decide)), own_hit], ?_⟩
              unfold own_at
              rw [he, own_sh1, if_neg (by decide), if_pos (by decide), if_pos (by decide), if_pos (own_eqh _)]
            · have he : pj - o = (2 : Int32) := own_deq (t := 2) hd (by decide) cs
              refine ⟨(jb (jushr (jushr y (7 : Int32)) (7 : Int32))), by rw [cs, own_hit], ?_⟩
              unfold own_at
              rw [he, own_sh2, if_neg (by decide), if_pos (by decide), if_neg (by decide), if_pos (own_eql _ hr.1 hr.2)]
      · have d2 := c2
        rw [Int32.lt_iff_toInt_lt, e0] at d2
        by_cases c3 : (jushr (jushr (jushr y (7 : Int32)) (7 : Int32)) (7 : Int32)) < (128 : Int32)
        · have d3 := c3
          rw [Int32.lt_iff_toInt_lt, e0] at d3
          have hc : own_cnt y = (4 : Int32) := by
            unfold own_cnt
            rw [if_neg (by rw [Int32.lt_iff_toInt_lt, e0]; omega), if_neg (by rw [Int32.lt_iff_toInt_lt, e1]; omega), if_neg (by rw [Int32.lt_iff_toInt_lt, e2]; omega), if_pos (by rw [Int32.lt_iff_toInt_lt, e3]; omega)]
          have hr : 0 ≤ (jushr (jushr (jushr y (7 : Int32)) (7 : Int32)) (7 : Int32)).toInt ∧ (jushr (jushr (jushr y (7 : Int32)) (7 : Int32)) (7 : Int32)).toInt < 128 := by omega
          clear t1 t2 t3 t4 e0 e1 e2 e3 r
          have hw : own_wr (fun _ => .int fill) i y = (own_upd (own_upd (own_upd (own_upd (fun _ => .int fill) (i + 0) (.int (jb (y ||| (128 : Int32))))) (i + 1) (.int (jb ((jushr y (7 : Int32)) ||| (128 : Int32))))) (i + 2) (.int (jb ((jushr (jushr y (7 : Int32)) (7 : Int32)) ||| (128 : Int32))))) (i + 3) (.int (jb (jushr (jushr (jushr y (7 : Int32)) (7 : Int32)) (7 : Int32))))) := by unfold own_wr; rw [if_neg c0, if_neg c1, if_neg c2, if_pos c3]; rfl
          rw [hw, hn, hc]
          by_cases a : j < i
          · refine ⟨fill, by rw [own_miss (own_nlt a), own_miss (own_nlt a), own_miss (own_nlt a), own_miss (own_nlt a)], ?_⟩
            unfold own_at
            rw [if_pos (own_dneg hd a), if_pos rfl]
          · by_cases a2 : i + 3 < j
            · refine ⟨fill, by rw [own_miss (own_ngt a2 (by decide)), own_miss (own_ngt a2 (by decide)), own_miss (own_ngt a2 (by decide)), own_miss (own_ngt a2 (by decide))], ?_⟩
              unfold own_at
              rw [if_neg (own_dpos hd a), if_neg (own_dge (k := 3) hd (by decide) a2), if_pos rfl]
            · have cs := own_cs3 a a2
              rcases cs with cs | cs | cs | cs
              · have he : pj - o = (0 : Int32) := own_deq (t := 0) hd (by decide) cs
                refine ⟨(jb (y ||| (128 : Int32))), by rw [cs, own_miss (own_nd (by decide)), own_miss (own_nd (by decide)), own_miss (own_nd (by decide)), own_hit], ?_⟩
                unfold own_at
                rw [he, own_sh0, if_neg (by decide), if_pos (by decide), if_pos (by decide), if_pos (own_eqh _)]
              · have he : pj - o = (1 : Int32) := own_deq (t := 1) hd (by decide) cs
                refine ⟨(jb ((jushr y (7 : Int32)) ||| (128 : Int32))), by rw [cs, own_miss (own_nd (by decide)), own_miss (own_nd (by decide)), own_hit], ?_⟩
                unfold own_at
                rw [he, own_sh1, if_neg (by decide), if_pos (by decide), if_pos (by decide), if_pos (own_eqh _)]
              · have he : pj - o = (2 : Int32) := own_deq (t := 2) hd (by decide) cs
                refine ⟨(jb ((jushr (jushr y (7 : Int32)) (7 : Int32)) ||| (128 : Int32))), by rw [cs, own_miss (own_nd (by decide)), own_hit], ?_⟩
                unfold own_at
                rw [he, own_sh2, if_neg (by decide), if_pos (by decide), if_pos (by decide), if_pos (own_eqh _)]
              · have he : pj - o = (3 : Int32) := own_deq (t := 3) hd (by decide) cs
                refine ⟨(jb (jushr (jushr (jushr y (7 : Int32)) (7 : Int32)) (7 : Int32))), by rw [cs, own_hit], ?_⟩
                unfold own_at
                rw [he, own_sh3, if_neg (by decide), if_pos (by decide), if_neg (by decide), if_pos (own_eql _ hr.1 hr.2)]
        · have d3 := c3
          rw [Int32.lt_iff_toInt_lt, e0] at d3
          have hc : own_cnt y = (5 : Int32) := by
            unfold own_cnt
            rw [if_neg (by rw [Int32.lt_iff_toInt_lt, e0]; omega), if_neg (by rw [Int32.lt_iff_toInt_lt, e1]; omega), if_neg (by rw [Int32.lt_iff_toInt_lt, e2]; omega), if_neg (by rw [Int32.lt_iff_toInt_lt, e3]; omega)]
          have hr : 0 ≤ (jushr (jushr (jushr (jushr y (7 : Int32)) (7 : Int32)) (7 : Int32)) (7 : Int32)).toInt ∧ (jushr (jushr (jushr (jushr y (7 : Int32)) (7 : Int32)) (7 : Int32)) (7 : Int32)).toInt < 128 := by omega
          clear t1 t2 t3 t4 e0 e1 e2 e3 r
          have hw : own_wr (fun _ => .int fill) i y = (own_upd (own_upd (own_upd (own_upd (own_upd (fun _ => .int fill) (i + 0) (.int (jb (y ||| (128 : Int32))))) (i + 1) (.int (jb ((jushr y (7 : Int32)) ||| (128 : Int32))))) (i + 2) (.int (jb ((jushr (jushr y (7 : Int32)) (7 : Int32)) ||| (128 : Int32))))) (i + 3) (.int (jb ((jushr (jushr (jushr y (7 : Int32)) (7 : Int32)) (7 : Int32)) ||| (128 : Int32))))) (i + 4) (.int (jb (jushr (jushr (jushr (jushr y (7 : Int32)) (7 : Int32)) (7 : Int32)) (7 : Int32))))) := by unfold own_wr; rw [if_neg c0, if_neg c1, if_neg c2, if_neg c3]; rfl
          rw [hw, hn, hc]
          by_cases a : j < i
          · refine ⟨fill, by rw [own_miss (own_nlt a), own_miss (own_nlt a), own_miss (own_nlt a), own_miss (own_nlt a), own_miss (own_nlt a)], ?_⟩
            unfold own_at
            rw [if_pos (own_dneg hd a), if_pos rfl]
          · by_cases a2 : i + 4 < j
            · refine ⟨fill, by rw [own_miss (own_ngt a2 (by decide)), own_miss (own_ngt a2 (by decide)), own_miss (own_ngt a2 (by decide)), own_miss (own_ngt a2 (by decide)), own_miss (own_ngt a2 (by decide))], ?_⟩
              unfold own_at
              rw [if_neg (own_dpos hd a), if_neg (own_dge (k := 4) hd (by decide) a2), if_pos rfl]
            · have cs := own_cs4 a a2
              rcases cs with cs | cs | cs | cs | cs
              · have he : pj - o = (0 : Int32) := own_deq (t := 0) hd (by decide) cs
                refine ⟨(jb (y ||| (128 : Int32))), by rw [cs, own_miss (own_nd (by decide)), own_miss (own_nd (by decide)), own_miss (own_nd (by decide)), own_miss (own_nd (by decide)), own_hit], ?_⟩
                unfold own_at
                rw [he, own_sh0, if_neg (by decide), if_pos (by decide), if_pos (by decide), if_pos (own_eqh _)]
              · have he : pj - o = (1 : Int32) := own_deq (t := 1) hd (by decide) cs
                refine ⟨(jb ((jushr y (7 : Int32)) ||| (128 : Int32))), by rw [cs, own_miss (own_nd (by decide)), own_miss (own_nd (by decide)), own_miss (own_nd (by decide)), own_hit], ?_⟩
                unfold own_at
                rw [he, own_sh1, if_neg (by decide), if_pos (by decide), if_pos (by decide), if_pos (own_eqh _)]
              · have he : pj - o = (2 : Int32) := own_deq (t := 2) hd (by decide) cs
                refine ⟨(jb ((jushr (jushr y (7 : Int32)) (7 : Int32)) ||| (128 : Int32))), by rw [cs, own_miss (own_nd (by decide)), own_miss (own_nd (by decide)), own_hit], ?_⟩
                unfold own_at
                rw [he, own_sh2, if_neg (by decide), if_pos (by decide), if_pos (by decide), if_pos (own_eqh _)]
              · have he : pj - o = (3 : Int32) := own_deq (t := 3) hd (by decide) cs
                refine ⟨(jb ((jushr (jushr (jushr y (7 : Int32)) (7 : Int32)) (7 : Int32)) ||| (128 : Int32))), by rw [cs, own_miss (own_nd (by decide)), own_hit], ?_⟩
                unfold own_at
                rw [he, own_sh3, if_neg (by decide), if_pos (by decide), if_pos (by decide), if_pos (own_eqh _)]
              · have he : pj - o = (4 : Int32) := own_deq (t := 4) hd (by decide) cs
                refine ⟨(jb (jushr (jushr (jushr (jushr y (7 : Int32)) (7 : Int32)) (7 : Int32)) (7 : Int32))), by rw [cs, own_hit], ?_⟩
                unfold own_at
                rw [he, own_sh4, if_neg (by decide), if_pos (by decide), if_neg (by decide), if_pos (own_eql _ hr.1 hr.2)]
def Q_rm0 (Z : State) (p1 : Int32) (p2 : Int32) (p3 : Int32) (p4 : Int32) (h0 : Heap) (n0 : Nat) (v : Option Value) (h : Heap) (L : List Loc) : Prop := v = some (.int (1 : Int32)) ∧ Fr n0 L
set_option maxRecDepth 65536 in
set_option maxHeartbeats 40000000 in
theorem rm0 (l : Launch) (Z : State) (a0 : Array Value) (hw : ∀ d ∈ tables_1, d.before a0 Z = true) (ws : List Jvm.Cond) (p1 : Int32) (p2 : Int32) (p3 : Int32) (p4 : Int32) (h0 : Heap) (n0 : Nat) (Z0 : n0 ≤ h0.size)  :
    MetFree l x (head1 (Jvm.Cond.code x code maxLocals ret :: ws) room_1) (fun a U => a = #[(.int p1), (.int p2), (.int p3), (.int p4)] ∧ Z.Warmed39 U.vm ∧ U.heap = h0) (fun _ _ _ _ _ => True) (fun _ U o U' => ∃ v L, o = .returned v ∧ Q_rm0 Z p1 p2 p3 p4 h0 n0 v U'.heap L ∧ FrameEnd U o U' L room_1.cells room_1.slots) := by
  refine own_body (Q := Q_rm0 Z p1 p2 p3 p4 h0 n0) (plainFor_of_name pn_6) ?_
  intro p e s m below meth c s₁ K go fin X0 hx hby hml hown hnm hret hZ e0
  have hown : s.vm.findClass "com/example/keyspace_ledger/keyspaceledger/LengthPrefixWritePinLaw" = some m.cls := hown
  have N0 := Fr.nil n0
  refine go _ (s₁.setTop (mkF m 0 #[.val (.int p1), .val (.int p2), .val (.int p3), .val (.int p4), .unset, .unset, .unset, .unset, .unset, .unset] [])) (fun t k => castTop (ef_rm0 m p1 p2 p3 p4) k) ?_
  obtain ⟨i, hi, hj⟩ := own_ix p3
  have hlp := own_lenpos p1 p2
  refine go _ (s₁.setTop (mkF m 1 #[.val (.int p1), .val (.int p2), .val (.int p3), .val (.int p4), .unset, .unset, .unset, .unset, .unset, .unset] [(.int p1)])) (fun t k => XS.iloadN X0.here hx rfl (hb hby at_0) rfl k) ?_
  refine go _ (s₁.setTop (mkF m 3 #[.val (.int p1), .val (.int p2), .val (.int p3), .val (.int p4), .unset, .unset, .unset, .unset, .unset, .unset] [(.int (2147483647 : Int32)), (.int p1)])) (X0.ldcInt hx hown (mvT hZ (hw _ (List.mem_of_getElem? (i := 0) rfl))) (g := (mkF m 1 #[.val (.int p1), .val (.int p2), .val (.int p3), .val (.int p4), .unset, .unset, .unset, .unset, .unset, .unset] [(.int p1)])) rfl (hb hby at_1)) ?_
  refine go _ (s₁.setTop (mkF m 4 #[.val (.int p1), .val (.int p2), .val (.int p3), .val (.int p4), .unset, .unset, .unset, .unset, .unset, .unset] [(.int (p1 &&& (2147483647 : Int32)))])) (fun t k => XS.iand X0.here hx rfl (hb hby at_3) rfl k) ?_
  refine go _ (s₁.setTop (mkF m 5 #[.val (.int p1), .val (.int p2), .val (.int p3), .val (.int p4), .unset, .unset, .unset, .unset, .unset, .unset] [(.int p2), (.int (p1 &&& (2147483647 : Int32)))])) (fun t k => XS.iloadN X0.here hx rfl (hb hby at_4) rfl k) ?_
  refine go _ (s₁.setTop (mkF m 7 #[.val (.int p1), .val (.int p2), .val (.int p3), .val (.int p4), .unset, .unset, .unset, .unset, .unset, .unset] [(.int (31 : Int32)), (.int p2), (.int (p1 &&& (2147483647 : Int32)))])) (fun t k => XS.bipush X0.here hx rfl (hb hby at_5) k) ?_
  refine go _ (s₁.setTop (mkF m 8 #[.val (.int p1), .val (.int p2), .val (.int p3), .val (.int p4), .unset, .unset, .unset, .unset, .unset, .unset] [(.int (p2 &&& (31 : Int32))), (.int (p1 &&& (2147483647 : Int32)))])) (fun t k => XS.iand X0.here hx rfl (hb hby at_7) rfl k) ?_
  refine go _ (s₁.setTop (mkF m 9 #[.val (.int p1), .val (.int p2), .val (.int p3), .val (.int p4), .unset, .unset, .unset, .unset, .unset, .unset] [(.int (jushr (p1 &&& (2147483647 : Int32)) (p2 &&& (31 : Int32))))])) (fun t k => XS.iushr X0.here hx rfl (hb hby at_8) rfl k) ?_
  refine go _ (s₁.setTop (mkF m 11 #[.val (.int p1), .val (.int p2), .val (.int p3), .val (.int p4), .val (.int (v_rm0_0 p1 p2)), .unset, .unset, .unset, .unset, .unset] [])) (fun t k => XS.istore X0.here hx rfl (hb hby at_9) rfl (l' := #[.val (.int p1), .val (.int p2), .val (.int p3), .val (.int p4), .val (.int (v_rm0_0 p1 p2)), .unset, .unset, .unset, .unset, .unset]) rfl k) ?_
  refine go _ (s₁.setTop (mkF m 12 #[.val (.int p1), .val (.int p2), .val (.int p3), .val (.int p4), .val (.int (v_rm0_0 p1 p2)), .unset, .unset, .unset, .unset, .unset] [(.int p3)])) (fun t k => XS.iloadN X0.here hx rfl (hb hby at_11) rfl k) ?_
  refine go _ (s₁.setTop (mkF m 14 #[.val (.int p1), .val (.int p2), .val (.int p3), .val (.int p4), .val (.int (v_rm0_0 p1 p2)), .unset, .unset, .unset, .unset, .unset] [(.int (7 : Int32)), (.int p3)])) (fun t k => XS.bipush X0.here hx rfl (hb hby at_12) k) ?_
  refine go _ (s₁.setTop (mkF m 15 #[.val (.int p1), .val (.int p2), .val (.int p3), .val (.int p4), .val (.int (v_rm0_0 p1 p2)), .unset, .unset, .unset, .unset, .unset] [(.int (p3 &&& (7 : Int32)))])) (fun t k => XS.iand X0.here hx rfl (hb hby at_14) rfl k) ?_
  refine go _ (s₁.setTop (mkF m 17 #[.val (.int p1), .val (.int p2), .val (.int p3), .val (.int p4), .val (.int (v_rm0_0 p1 p2)), .val (.int (p3 &&& (7 : Int32))), .unset, .unset, .unset, .unset] [])) (fun t k => XS.istore X0.here hx rfl (hb hby at_15) rfl (l' := #[.val (.int p1), .val (.int p2), .val (.int p3), .val (.int p4), .val (.int (v_rm0_0 p1 p2)), .val (.int (p3 &&& (7 : Int32))), .unset, .unset, .unset, .unset]) rfl k) ?_
  refine go _ (s₁.setTop (mkF m 18 #[.val (.int p1), .val (.int p2), .val (.int p3), .val (.int p4), .val (.int (v_rm0_0 p1 p2)), .val (.int (p3 &&& (7 : Int32))), .unset, .unset, .unset, .unset] [(.int p4)])) (fun t k => XS.iloadN X0.here hx rfl (hb hby at_17) rfl k) ?_
  refine go _ (s₁.setTop (mkF m 19 #[.val (.int p1), .val (.int p2), .val (.int p3), .val (.int p4), .val (.int (v_rm0_0 p1 p2)), .val (.int (p3 &&& (7 : Int32))), .unset, .unset, .unset, .unset] [(.int (jb p4))])) (fun t k => XS.i2b X0.here hx rfl (hb hby at_18) rfl k) ?_
  refine go _ (s₁.setTop (mkF m 21 #[.val (.int p1), .val (.int p2), .val (.int p3), .val (.int p4), .val (.int (v_rm0_0 p1 p2)), .val (.int (p3 &&& (7 : Int32))), .val (.int (jb p4)), .unset, .unset, .unset] [])) (fun t k => XS.istore X0.here hx rfl (hb hby at_19) rfl (l' := #[.val (.int p1), .val (.int p2), .val (.int p3), .val (.int p4), .val (.int (v_rm0_0 p1 p2)), .val (.int (p3 &&& (7 : Int32))), .val (.int (jb p4)), .unset, .unset, .unset]) rfl k) ?_
  refine go _ (s₁.setTop (mkF m 23 #[.val (.int p1), .val (.int p2), .val (.int p3), .val (.int p4), .val (.int (v_rm0_0 p1 p2)), .val (.int (p3 &&& (7 : Int32))), .val (.int (jb p4)), .unset, .unset, .unset] [(.int (13 : Int32))])) (fun t k => XS.bipush X0.here hx rfl (hb hby at_21) k) ?_
  obtain ⟨T49, h49, b49, X49, e49, E49, g49, A49, st49⟩ := own_new X0 hx hZ (hw _ (List.mem_of_getElem? (i := 1) rfl)) e0 (g := (mkF m 23 #[.val (.int p1), .val (.int p2), .val (.int p3), .val (.int p4), .val (.int (v_rm0_0 p1 p2)), .val (.int (p3 &&& (7 : Int32))), .val (.int (jb p4)), .unset, .unset, .unset] [(.int (13 : Int32))])) rfl (hb hby at_23) rfl (k := 13) (by decide) 13 (by decide) (by decide) (by decide) (by decide)
  have Z50 : n0 ≤ h49.size := Nat.le_trans Z0 E49.1
  have ge_b49 : n0 ≤ b49 := by rw [g49]; exact Z0
  have A49' : AF Z h49 b49 .byte 13 (fun _ => .int 0) := A49
  refine go _ (T49.setTop (mkF m 25 #[.val (.int p1), .val (.int p2), .val (.int p3), .val (.int p4), .val (.int (v_rm0_0 p1 p2)), .val (.int (p3 &&& (7 : Int32))), .val (.int (jb p4)), .unset, .unset, .unset] [(.ref b49)])) (st49) ?_
  refine go _ (T49.setTop (mkF m 27 #[.val (.int p1), .val (.int p2), .val (.int p3), .val (.int p4), .val (.int (v_rm0_0 p1 p2)), .val (.int (p3 &&& (7 : Int32))), .val (.int (jb p4)), .val (.ref b49), .unset, .unset] [])) (fun t k => XS.astore X49.here hx rfl (hb hby at_25) rfl rfl (l' := #[.val (.int p1), .val (.int p2), .val (.int p3), .val (.int p4), .val (.int (v_rm0_0 p1 p2)), .val (.int (p3 &&& (7 : Int32))), .val (.int (jb p4)), .val (.ref b49), .unset, .unset]) rfl k) ?_
  refine go _ (T49.setTop (mkF m 29 #[.val (.int p1), .val (.int p2), .val (.int p3), .val (.int p4), .val (.int (v_rm0_0 p1 p2)), .val (.int (p3 &&& (7 : Int32))), .val (.int (jb p4)), .val (.ref b49), .unset, .unset] [(.ref b49)])) (fun t k => XS.aload X49.here hx rfl (hb hby at_27) rfl rfl k) ?_
  refine go _ (T49.setTop (mkF m 30 #[.val (.int p1), .val (.int p2), .val (.int p3), .val (.int p4), .val (.int (v_rm0_0 p1 p2)), .val (.int (p3 &&& (7 : Int32))), .val (.int (jb p4)), .val (.ref b49), .unset, .unset] [(.int (0 : Int32)), (.ref b49)])) (fun t k => XS.iconst X49.here hx rfl (hb hby at_29) k) ?_
  refine go _ (T49.setTop (mkF m 32 #[.val (.int p1), .val (.int p2), .val (.int p3), .val (.int p4), .val (.int (v_rm0_0 p1 p2)), .val (.int (p3 &&& (7 : Int32))), .val (.int (jb p4)), .val (.ref b49), .unset, .unset] [(.int (jb p4)), (.int (0 : Int32)), (.ref b49)])) (fun t k => XS.iload X49.here hx rfl (hb hby at_30) rfl k) ?_
  obtain ⟨T51, h51, X51, e51, W51, A51, st51⟩ := own_stB X49 hx hZ e49 A49' (i := 0) (by decide) (by decide) (own_narb p4) (g := (mkF m 32 #[.val (.int p1), .val (.int p2), .val (.int p3), .val (.int p4), .val (.int (v_rm0_0 p1 p2)), .val (.int (p3 &&& (7 : Int32))), .val (.int (jb p4)), .val (.ref b49), .unset, .unset] [(.int (jb p4)), (.int (0 : Int32)), (.ref b49)])) rfl rfl (hb hby at_32)
  have Z52 : n0 ≤ h51.size := by rw [W51.size]; exact Z50
  have N53 := Fr.snoc X51 N0 ge_b49
  refine go _ (T51.setTop (mkF m 33 #[.val (.int p1), .val (.int p2), .val (.int p3), .val (.int p4), .val (.int (v_rm0_0 p1 p2)), .val (.int (p3 &&& (7 : Int32))), .val (.int (jb p4)), .val (.ref b49), .unset, .unset] [])) (st51) ?_
  refine go _ (T51.setTop (mkF m 35 #[.val (.int p1), .val (.int p2), .val (.int p3), .val (.int p4), .val (.int (v_rm0_0 p1 p2)), .val (.int (p3 &&& (7 : Int32))), .val (.int (jb p4)), .val (.ref b49), .unset, .unset] [(.ref b49)])) (fun t k => XS.aload X51.here hx rfl (hb hby at_33) rfl rfl k) ?_
  refine go _ (T51.setTop (mkF m 36 #[.val (.int p1), .val (.int p2), .val (.int p3), .val (.int p4), .val (.int (v_rm0_0 p1 p2)), .val (.int (p3 &&& (7 : Int32))), .val (.int (jb p4)), .val (.ref b49), .unset, .unset] [(.int (1 : Int32)), (.ref b49)])) (fun t k => XS.iconst X51.here hx rfl (hb hby at_35) k) ?_
  refine go _ (T51.setTop (mkF m 38 #[.val (.int p1), .val (.int p2), .val (.int p3), .val (.int p4), .val (.int (v_rm0_0 p1 p2)), .val (.int (p3 &&& (7 : Int32))), .val (.int (jb p4)), .val (.ref b49), .unset, .unset] [(.int (jb p4)), (.int (1 : Int32)), (.ref b49)])) (fun t k => XS.iload X51.here hx rfl (hb hby at_36) rfl k) ?_
  obtain ⟨T54, h54, X54, e54, W54, A54, st54⟩ := own_stB X51 hx hZ e51 A51 (i := 1) (by decide) (by decide) (own_narb p4) (g := (mkF m 38 #[.val (.int p1), .val (.int p2), .val (.int p3), .val (.int p4), .val (.int (v_rm0_0 p1 p2)), .val (.int (p3 &&& (7 : Int32))), .val (.int (jb p4)), .val (.ref b49), .unset, .unset] [(.int (jb p4)), (.int (1 : Int32)), (.ref b49)])) rfl rfl (hb hby at_38)
  have Z55 : n0 ≤ h54.size := by rw [W54.size]; exact Z52
  have N56 := Fr.snoc X54 N53 ge_b49
  refine go _ (T54.setTop (mkF m 39 #[.val (.int p1), .val (.int p2), .val (.int p3), .val (.int p4), .val (.int (v_rm0_0 p1 p2)), .val (.int (p3 &&& (7 : Int32))), .val (.int (jb p4)), .val (.ref b49), .unset, .unset] [])) (st54) ?_
  refine go _ (T54.setTop (mkF m 41 #[.val (.int p1), .val (.int p2), .val (.int p3), .val (.int p4), .val (.int (v_rm0_0 p1 p2)), .val (.int (p3 &&& (7 : Int32))), .val (.int (jb p4)), .val (.ref b49), .unset, .unset] [(.ref b49)])) (fun t k => XS.aload X54.here hx rfl (hb hby at_39) rfl rfl k) ?_
  refine go _ (T54.setTop (mkF m 42 #[.val (.int p1), .val (.int p2), .val (.int p3), .val (.int p4), .val (.int (v_rm0_0 p1 p2)), .val (.int (p3 &&& (7 : Int32))), .val (.int (jb p4)), .val (.ref b49), .unset, .unset] [(.int (2 : Int32)), (.ref b49)])) (fun t k => XS.iconst X54.here hx rfl (hb hby at_41) k) ?_
  refine go _ (T54.setTop (mkF m 44 #[.val (.int p1), .val (.int p2), .val (.int p3), .val (.int p4), .val (.int (v_rm0_0 p1 p2)), .val (.int (p3 &&& (7 : Int32))), .val (.int (jb p4)), .val (.ref b49), .unset, .unset] [(.int (jb p4)), (.int (2 : Int32)), (.ref b49)])) (fun t k => XS.iload X54.here hx rfl (hb hby at_42) rfl k) ?_
  obtain ⟨T57, h57, X57, e57, W57, A57, st57⟩ := own_stB X54 hx hZ e54 A54 (i := 2) (by decide) (by decide) (own_narb p4) (g := (mkF m 44 #[.val (.int p1), .val (.int p2), .val (.int p3), .val (.int p4), .val (.int (v_rm0_0 p1 p2)), .val (.int (p3 &&& (7 : Int32))), .val (.int (jb p4)), .val (.ref b49), .unset, .unset] [(.int (jb p4)), (.int (2 : Int32)), (.ref b49)])) rfl rfl (hb hby at_44)
  have Z58 : n0 ≤ h57.size := by rw [W57.size]; exact Z55
  have N59 := Fr.snoc X57 N56 ge_b49
  refine go _ (T57.setTop (mkF m 45 #[.val (.int p1), .val (.int p2), .val (.int p3), .val (.int p4), .val (.int (v_rm0_0 p1 p2)), .val (.int (p3 &&& (7 : Int32))), .val (.int (jb p4)), .val (.ref b49), .unset, .unset] [])) (st57) ?_
  refine go _ (T57.setTop (mkF m 47 #[.val (.int p1), .val (.int p2), .val (.int p3), .val (.int p4), .val (.int (v_rm0_0 p1 p2)), .val (.int (p3 &&& (7 : Int32))), .val (.int (jb p4)), .val (.ref b49), .unset, .unset] [(.ref b49)])) (fun t k => XS.aload X57.here hx rfl (hb hby at_45) rfl rfl k) ?_
  refine go _ (T57.setTop (mkF m 48 #[.val (.int p1), .val (.int p2), .val (.int p3), .val (.int p4), .val (.int (v_rm0_0 p1 p2)), .val (.int (p3 &&& (7 : Int32))), .val (.int (jb p4)), .val (.ref b49), .unset, .unset] [(.int (3 : Int32)), (.ref b49)])) (fun t k => XS.iconst X57.here hx rfl (hb hby at_47) k) ?_
  refine go _ (T57.setTop (mkF m 50 #[.val (.int p1), .val (.int p2), .val (.int p3), .val (.int p4), .val (.int (v_rm0_0 p1 p2)), .val (.int (p3 &&& (7 : Int32))), .val (.int (jb p4)), .val (.ref b49), .unset, .unset] [(.int (jb p4)), (.int (3 : Int32)), (.ref b49)])) (fun t k => XS.iload X57.here hx rfl (hb hby at_48) rfl k) ?_
  obtain ⟨T60, h60, X60, e60, W60, A60, st60⟩ := own_stB X57 hx hZ e57 A57 (i := 3) (by decide) (by decide) (own_narb p4) (g := (mkF m 50 #[.val (.int p1), .val (.int p2), .val (.int p3), .val (.int p4), .val (.int (v_rm0_0 p1 p2)), .val (.int (p3 &&& (7 : Int32))), .val (.int (jb p4)), .val (.ref b49), .unset, .unset] [(.int (jb p4)), (.int (3 : Int32)), (.ref b49)])) rfl rfl (hb hby at_50)
  have Z61 : n0 ≤ h60.size := by rw [W60.size]; exact Z58
  have N62 := Fr.snoc X60 N59 ge_b49
  refine go _ (T60.setTop (mkF m 51 #[.val (.int p1), .val (.int p2), .val (.int p3), .val (.int p4), .val (.int (v_rm0_0 p1 p2)), .val (.int (p3 &&& (7 : Int32))), .val (.int (jb p4)), .val (.ref b49), .unset, .unset] [])) (st60) ?_
  refine go _ (T60.setTop (mkF m 53 #[.val (.int p1), .val (.int p2), .val (.int p3), .val (.int p4), .val (.int (v_rm0_0 p1 p2)), .val (.int (p3 &&& (7 : Int32))), .val (.int (jb p4)), .val (.ref b49), .unset, .unset] [(.ref b49)])) (fun t k => XS.aload X60.here hx rfl (hb hby at_51) rfl rfl k) ?_
  refine go _ (T60.setTop (mkF m 54 #[.val (.int p1), .val (.int p2), .val (.int p3), .val (.int p4), .val (.int (v_rm0_0 p1 p2)), .val (.int (p3 &&& (7 : Int32))), .val (.int (jb p4)), .val (.ref b49), .unset, .unset] [(.int (4 : Int32)), (.ref b49)])) (fun t k => XS.iconst X60.here hx rfl (hb hby at_53) k) ?_
  refine go _ (T60.setTop (mkF m 56 #[.val (.int p1), .val (.int p2), .val (.int p3), .val (.int p4), .val (.int (v_rm0_0 p1 p2)), .val (.int (p3 &&& (7 : Int32))), .val (.int (jb p4)), .val (.ref b49), .unset, .unset] [(.int (jb p4)), (.int (4 : Int32)), (.ref b49)])) (fun t k => XS.iload X60.here hx rfl (hb hby at_54) rfl k) ?_
  obtain ⟨T63, h63, X63, e63, W63, A63, st63⟩ := own_stB X60 hx hZ e60 A60 (i := 4) (by decide) (by decide) (own_narb p4) (g := (mkF m 56 #[.val (.int p1), .val (.int p2), .val (.int p3), .val (.int p4), .val (.int (v_rm0_0 p1 p2)), .val (.int (p3 &&& (7 : Int32))), .val (.int (jb p4)), .val (.ref b49), .unset, .unset] [(.int (jb p4)), (.int (4 : Int32)), (.ref b49)])) rfl rfl (hb hby at_56)
  have Z64 : n0 ≤ h63.size := by rw [W63.size]; exact Z61
  have N65 := Fr.snoc X63 N62 ge_b49
  refine go _ (T63.setTop (mkF m 57 #[.val (.int p1), .val (.int p2), .val (.int p3), .val (.int p4), .val (.int (v_rm0_0 p1 p2)), .val (.int (p3 &&& (7 : Int32))), .val (.int (jb p4)), .val (.ref b49), .unset, .unset] [])) (st63) ?_
  refine go _ (T63.setTop (mkF m 59 #[.val (.int p1), .val (.int p2), .val (.int p3), .val (.int p4), .val (.int (v_rm0_0 p1 p2)), .val (.int (p3 &&& (7 : Int32))), .val (.int (jb p4)), .val (.ref b49), .unset, .unset] [(.ref b49)])) (fun t k => XS.aload X63.here hx rfl (hb hby at_57) rfl rfl k) ?_
  refine go _ (T63.setTop (mkF m 60 #[.val (.int p1), .val (.int p2), .val (.int p3), .val (.int p4), .val (.int (v_rm0_0 p1 p2)), .val (.int (p3 &&& (7 : Int32))), .val (.int (jb p4)), .val (.ref b49), .unset, .unset] [(.int (5 : Int32)), (.ref b49)])) (fun t k => XS.iconst X63.here hx rfl (hb hby at_59) k) ?_
  refine go _ (T63.setTop (mkF m 62 #[.val (.int p1), .val (.int p2), .val (.int p3), .val (.int p4), .val (.int (v_rm0_0 p1 p2)), .val (.int (p3 &&& (7 : Int32))), .val (.int (jb p4)), .val (.ref b49), .unset, .unset] [(.int (jb p4)), (.int (5 : Int32)), (.ref b49)])) (fun t k => XS.iload X63.here hx rfl (hb hby at_60) rfl k) ?_
  obtain ⟨T66, h66, X66, e66, W66, A66, st66⟩ := own_stB X63 hx hZ e63 A63 (i := 5) (by decide) (by decide) (own_narb p4) (g := (mkF m 62 #[.val (.int p1), .val (.int p2), .val (.int p3), .val (.int p4), .val (.int (v_rm0_0 p1 p2)), .val (.int (p3 &&& (7 : Int32))), .val (.int (jb p4)), .val (.ref b49), .unset, .unset] [(.int (jb p4)), (.int (5 : Int32)), (.ref b49)])) rfl rfl (hb hby at_62)
  have Z67 : n0 ≤ h66.size := by rw [W66.size]; exact Z64
  have N68 := Fr.snoc X66 N65 ge_b49
  refine go _ (T66.setTop (mkF m 63 #[.val (.int p1), .val (.int p2), .val (.int p3), .val (.int p4), .val (.int (v_rm0_0 p1 p2)), .val (.int (p3 &&& (7 : Int32))), .val (.int (jb p4)), .val (.ref b49), .unset, .unset] [])) (st66) ?_
  refine go _ (T66.setTop (mkF m 65 #[.val (.int p1), .val (.int p2), .val (.int p3), .val (.int p4), .val (.int (v_rm0_0 p1 p2)), .val (.int (p3 &&& (7 : Int32))), .val (.int (jb p4)), .val (.ref b49), .unset, .unset] [(.ref b49)])) (fun t k => XS.aload X66.here hx rfl (hb hby at_63) rfl rfl k) ?_
  refine go _ (T66.setTop (mkF m 67 #[.val (.int p1), .val (.int p2), .val (.int p3), .val (.int p4), .val (.int (v_rm0_0 p1 p2)), .val (.int (p3 &&& (7 : Int32))), .val (.int (jb p4)), .val (.ref b49), .unset, .unset] [(.int (6 : Int32)), (.ref b49)])) (fun t k => XS.bipush X66.here hx rfl (hb hby at_65) k) ?_
  refine go _ (T66.setTop (mkF m 69 #[.val (.int p1), .val (.int p2), .val (.int p3), .val (.int p4), .val (.int (v_rm0_0 p1 p2)), .val (.int (p3 &&& (7 : Int32))), .val (.int (jb p4)), .val (.ref b49), .unset, .unset] [(.int (jb p4)), (.int (6 : Int32)), (.ref b49)])) (fun t k => XS.iload X66.here hx rfl (hb hby at_67) rfl k) ?_
  obtain ⟨T69, h69, X69, e69, W69, A69, st69⟩ := own_stB X66 hx hZ e66 A66 (i := 6) (by decide) (by decide) (own_narb p4) (g := (mkF m 69 #[.val (.int p1), .val (.int p2), .val (.int p3), .val (.int p4), .val (.int (v_rm0_0 p1 p2)), .val (.int (p3 &&& (7 : Int32))), .val (.int (jb p4)), .val (.ref b49), .unset, .unset] [(.int (jb p4)), (.int (6 : Int32)), (.ref b49)])) rfl rfl (hb hby at_69)
  have Z70 : n0 ≤ h69.size := by rw [W69.size]; exact Z67
  have N71 := Fr.snoc X69 N68 ge_b49
  refine go _ (T69.setTop (mkF m 70 #[.val (.int p1), .val (.int p2), .val (.int p3), .val (.int p4), .val (.int (v_rm0_0 p1 p2)), .val (.int (p3 &&& (7 : Int32))), .val (.int (jb p4)), .val (.ref b49), .unset, .unset] [])) (st69) ?_
  refine go _ (T69.setTop (mkF m 72 #[.val (.int p1), .val (.int p2), .val (.int p3), .val (.int p4), .val (.int (v_rm0_0 p1 p2)), .val (.int (p3 &&& (7 : Int32))), .val (.int (jb p4)), .val (.ref b49), .unset, .unset] [(.ref b49)])) (fun t k => XS.aload X69.here hx rfl (hb hby at_70) rfl rfl k) ?_
  refine go _ (T69.setTop (mkF m 74 #[.val (.int p1), .val (.int p2), .val (.int p3), .val (.int p4), .val (.int (v_rm0_0 p1 p2)), .val (.int (p3 &&& (7 : Int32))), .val (.int (jb p4)), .val (.ref b49), .unset, .unset] [(.int (7 : Int32)), (.ref b49)])) (fun t k => XS.bipush X69.here hx rfl (hb hby at_72) k) ?_
  refine go _ (T69.setTop (mkF m 76 #[.val (.int p1), .val (.int p2), .val (.int p3), .val (.int p4), .val (.int (v_rm0_0 p1 p2)), .val (.int (p3 &&& (7 : Int32))), .val (.int (jb p4)), .val (.ref b49), .unset, .unset] [(.int (jb p4)), (.int (7 : Int32)), (.ref b49)])) (fun t k => XS.iload X69.here hx rfl (hb hby at_74) rfl k) ?_
  obtain ⟨T72, h72, X72, e72, W72, A72, st72⟩ := own_stB X69 hx hZ e69 A69 (i := 7) (by decide) (by decide) (own_narb p4) (g := (mkF m 76 #[.val (.int p1), .val (.int p2), .val (.int p3), .val (.int p4), .val (.int (v_rm0_0 p1 p2)), .val (.int (p3 &&& (7 : Int32))), .val (.int (jb p4)), .val (.ref b49), .unset, .unset] [(.int (jb p4)), (.int (7 : Int32)), (.ref b49)])) rfl rfl (hb hby at_76)
  have Z73 : n0 ≤ h72.size := by rw [W72.size]; exact Z70
  have N74 := Fr.snoc X72 N71 ge_b49
  refine go _ (T72.setTop (mkF m 77 #[.val (.int p1), .val (.int p2), .val (.int p3), .val (.int p4), .val (.int (v_rm0_0 p1 p2)), .val (.int (p3 &&& (7 : Int32))), .val (.int (jb p4)), .val (.ref b49), .unset, .unset] [])) (st72) ?_
  refine go _ (T72.setTop (mkF m 79 #[.val (.int p1), .val (.int p2), .val (.int p3), .val (.int p4), .val (.int (v_rm0_0 p1 p2)), .val (.int (p3 &&& (7 : Int32))), .val (.int (jb p4)), .val (.ref b49), .unset, .unset] [(.ref b49)])) (fun t k => XS.aload X72.here hx rfl (hb hby at_77) rfl rfl k) ?_
  refine go _ (T72.setTop (mkF m 81 #[.val (.int p1), .val (.int p2), .val (.int p3), .val (.int p4), .val (.int (v_rm0_0 p1 p2)), .val (.int (p3 &&& (7 : Int32))), .val (.int (jb p4)), .val (.ref b49), .unset, .unset] [(.int (8 : Int32)), (.ref b49)])) (fun t k => XS.bipush X72.here hx rfl (hb hby at_79) k) ?_
  refine go _ (T72.setTop (mkF m 83 #[.val (.int p1), .val (.int p2), .val (.int p3), .val (.int p4), .val (.int (v_rm0_0 p1 p2)), .val (.int (p3 &&& (7 : Int32))), .val (.int (jb p4)), .val (.ref b49), .unset, .unset] [(.int (jb p4)), (.int (8 : Int32)), (.ref b49)])) (fun t k => XS.iload X72.here hx rfl (hb hby at_81) rfl k) ?_
  obtain ⟨T75, h75, X75, e75, W75, A75, st75⟩ := own_stB X72 hx hZ e72 A72 (i := 8) (by decide) (by decide) (own_narb p4) (g := (mkF m 83 #[.val (.int p1), .val (.int p2), .val (.int p3), .val (.int p4), .val (.int (v_rm0_0 p1 p2)), .val (.int (p3 &&& (7 : Int32))), .val (.int (jb p4)), .val (.ref b49), .unset, .unset] [(.int (jb p4)), (.int (8 : Int32)), (.ref b49)])) rfl rfl (hb hby at_83)
  have Z76 : n0 ≤ h75.size := by rw [W75.size]; exact Z73
  have N77 := Fr.snoc X75 N74 ge_b49
  refine go _ (T75.setTop (mkF m 84 #[.val (.int p1), .val (.int p2), .val (.int p3), .val (.int p4), .val (.int (v_rm0_0 p1 p2)), .val (.int (p3 &&& (7 : Int32))), .val (.int (jb p4)), .val (.ref b49), .unset, .unset] [])) (st75) ?_
  refine go _ (T75.setTop (mkF m 86 #[.val (.int p1), .val (.int p2), .val (.int p3), .val (.int p4), .val (.int (v_rm0_0 p1 p2)), .val (.int (p3 &&& (7 : Int32))), .val (.int (jb p4)), .val (.ref b49), .unset, .unset] [(.ref b49)])) (fun t k => XS.aload X75.here hx rfl (hb hby at_84) rfl rfl k) ?_
  refine go _ (T75.setTop (mkF m 88 #[.val (.int p1), .val (.int p2), .val (.int p3), .val (.int p4), .val (.int (v_rm0_0 p1 p2)), .val (.int (p3 &&& (7 : Int32))), .val (.int (jb p4)), .val (.ref b49), .unset, .unset] [(.int (9 : Int32)), (.ref b49)])) (fun t k => XS.bipush X75.here hx rfl (hb hby at_86) k) ?_
  refine go _ (T75.setTop (mkF m 90 #[.val (.int p1), .val (.int p2), .val (.int p3), .val (.int p4), .val (.int (v_rm0_0 p1 p2)), .val (.int (p3 &&& (7 : Int32))), .val (.int (jb p4)), .val (.ref b49), .unset, .unset] [(.int (jb p4)), (.int (9 : Int32)), (.ref b49)])) (fun t k => XS.iload X75.here hx rfl (hb hby at_88) rfl k) ?_
  obtain ⟨T78, h78, X78, e78, W78, A78, st78⟩ := own_stB X75 hx hZ e75 A75 (i := 9) (by decide) (by decide) (own_narb p4) (g := (mkF m 90 #[.val (.int p1), .val (.int p2), .val (.int p3), .val (.int p4), .val (.int (v_rm0_0 p1 p2)), .val (.int (p3 &&& (7 : Int32))), .val (.int (jb p4)), .val (.ref b49), .unset, .unset] [(.int (jb p4)), (.int (9 : Int32)), (.ref b49)])) rfl rfl (hb hby at_90)
  have Z79 : n0 ≤ h78.size := by rw [W78.size]; exact Z76
  have N80 := Fr.snoc X78 N77 ge_b49
  refine go _ (T78.setTop (mkF m 91 #[.val (.int p1), .val (.int p2), .val (.int p3), .val (.int p4), .val (.int (v_rm0_0 p1 p2)), .val (.int (p3 &&& (7 : Int32))), .val (.int (jb p4)), .val (.ref b49), .unset, .unset] [])) (st78) ?_
  refine go _ (T78.setTop (mkF m 93 #[.val (.int p1), .val (.int p2), .val (.int p3), .val (.int p4), .val (.int (v_rm0_0 p1 p2)), .val (.int (p3 &&& (7 : Int32))), .val (.int (jb p4)), .val (.ref b49), .unset, .unset] [(.ref b49)])) (fun t k => XS.aload X78.here hx rfl (hb hby at_91) rfl rfl k) ?_
  refine go _ (T78.setTop (mkF m 95 #[.val (.int p1), .val (.int p2), .val (.int p3), .val (.int p4), .val (.int (v_rm0_0 p1 p2)), .val (.int (p3 &&& (7 : Int32))), .val (.int (jb p4)), .val (.ref b49), .unset, .unset] [(.int (10 : Int32)), (.ref b49)])) (fun t k => XS.bipush X78.here hx rfl (hb hby at_93) k) ?_
  refine go _ (T78.setTop (mkF m 97 #[.val (.int p1), .val (.int p2), .val (.int p3), .val (.int p4), .val (.int (v_rm0_0 p1 p2)), .val (.int (p3 &&& (7 : Int32))), .val (.int (jb p4)), .val (.ref b49), .unset, .unset] [(.int (jb p4)), (.int (10 : Int32)), (.ref b49)])) (fun t k => XS.iload X78.here hx rfl (hb hby at_95) rfl k) ?_
  obtain ⟨T81, h81, X81, e81, W81, A81, st81⟩ := own_stB X78 hx hZ e78 A78 (i := 10) (by decide) (by decide) (own_narb p4) (g := (mkF m 97 #[.val (.int p1), .val (.int p2), .val (.int p3), .val (.int p4), .val (.int (v_rm0_0 p1 p2)), .val (.int (p3 &&& (7 : Int32))), .val (.int (jb p4)), .val (.ref b49), .unset, .unset] [(.int (jb p4)), (.int (10 : Int32)), (.ref b49)])) rfl rfl (hb hby at_97)
  have Z82 : n0 ≤ h81.size := by rw [W81.size]; exact Z79
  have N83 := Fr.snoc X81 N80 ge_b49
  refine go _ (T81.setTop (mkF m 98 #[.val (.int p1), .val (.int p2), .val (.int p3), .val (.int p4), .val (.int (v_rm0_0 p1 p2)), .val (.int (p3 &&& (7 : Int32))), .val (.int (jb p4)), .val (.ref b49), .unset, .unset] [])) (st81) ?_
  refine go _ (T81.setTop (mkF m 100 #[.val (.int p1), .val (.int p2), .val (.int p3), .val (.int p4), .val (.int (v_rm0_0 p1 p2)), .val (.int (p3 &&& (7 : Int32))), .val (.int (jb p4)), .val (.ref b49), .unset, .unset] [(.ref b49)])) (fun t k => XS.aload X81.here hx rfl (hb hby at_98) rfl rfl k) ?_
  refine go _ (T81.setTop (mkF m 102 #[.val (.int p1), .val (.int p2), .val (.int p3), .val (.int p4), .val (.int (v_rm0_0 p1 p2)), .val (.int (p3 &&& (7 : Int32))), .val (.int (jb p4)), .val (.ref b49), .unset, .unset] [(.int (11 : Int32)), (.ref b49)])) (fun t k => XS.bipush X81.here hx rfl (hb hby at_100) k) ?_
  refine go _ (T81.setTop (mkF m 104 #[.val (.int p1), .val (.int p2), .val (.int p3), .val (.int p4), .val (.int (v_rm0_0 p1 p2)), .val (.int (p3 &&& (7 : Int32))), .val (.int (jb p4)), .val (.ref b49), .unset, .unset] [(.int (jb p4)), (.int (11 : Int32)), (.ref b49)])) (fun t k => XS.iload X81.here hx rfl (hb hby at_102) rfl k) ?_
  obtain ⟨T84, h84, X84, e84, W84, A84, st84⟩ := own_stB X81 hx hZ e81 A81 (i := 11) (by decide) (by decide) (own_narb p4) (g := (mkF m 104 #[.val (.int p1), .val (.int p2), .val (.int p3), .val (.int p4), .val (.int (v_rm0_0 p1 p2)), .val (.int (p3 &&& (7 : Int32))), .val (.int (jb p4)), .val (.ref b49), .unset, .unset] [(.int (jb p4)), (.int (11 : Int32)), (.ref b49)])) rfl rfl (hb hby at_104)
  have Z85 : n0 ≤ h84.size := by rw [W84.size]; exact Z82
  have N86 := Fr.snoc X84 N83 ge_b49
  refine go _ (T84.setTop (mkF m 105 #[.val (.int p1), .val (.int p2), .val (.int p3), .val (.int p4), .val (.int (v_rm0_0 p1 p2)), .val (.int (p3 &&& (7 : Int32))), .val (.int (jb p4)), .val (.ref b49), .unset, .unset] [])) (st84) ?_
  refine go _ (T84.setTop (mkF m 107 #[.val (.int p1), .val (.int p2), .val (.int p3), .val (.int p4), .val (.int (v_rm0_0 p1 p2)), .val (.int (p3 &&& (7 : Int32))), .val (.int (jb p4)), .val (.ref b49), .unset, .unset] [(.ref b49)])) (fun t k => XS.aload X84.here hx rfl (hb hby at_105) rfl rfl k) ?_
  refine go _ (T84.setTop (mkF m 109 #[.val (.int p1), .val (.int p2), .val (.int p3), .val (.int p4), .val (.int (v_rm0_0 p1 p2)), .val (.int (p3 &&& (7 : Int32))), .val (.int (jb p4)), .val (.ref b49), .unset, .unset] [(.int (12 : Int32)), (.ref b49)])) (fun t k => XS.bipush X84.here hx rfl (hb hby at_107) k) ?_
  refine go _ (T84.setTop (mkF m 111 #[.val (.int p1), .val (.int p2), .val (.int p3), .val (.int p4), .val (.int (v_rm0_0 p1 p2)), .val (.int (p3 &&& (7 : Int32))), .val (.int (jb p4)), .val (.ref b49), .unset, .unset] [(.int (jb p4)), (.int (12 : Int32)), (.ref b49)])) (fun t k => XS.iload X84.here hx rfl (hb hby at_109) rfl k) ?_
  obtain ⟨T87, h87, X87, e87, W87, A87, st87⟩ := own_stB X84 hx hZ e84 A84 (i := 12) (by decide) (by decide) (own_narb p4) (g := (mkF m 111 #[.val (.int p1), .val (.int p2), .val (.int p3), .val (.int p4), .val (.int (v_rm0_0 p1 p2)), .val (.int (p3 &&& (7 : Int32))), .val (.int (jb p4)), .val (.ref b49), .unset, .unset] [(.int (jb p4)), (.int (12 : Int32)), (.ref b49)])) rfl rfl (hb hby at_111)
  have Z88 : n0 ≤ h87.size := by rw [W87.size]; exact Z85
  have N89 := Fr.snoc X87 N86 ge_b49
  have A13 : AF Z h87 b49 .byte 13 (fun _ => .int (jb p4)) := A87.congr (fun j hj => by rcases j with _ | _ | _ | _ | _ | _ | _ | _ | _ | _ | _ | _ | _ | j <;> first | rfl | omega)
  refine go _ (T87.setTop (mkF m 112 #[.val (.int p1), .val (.int p2), .val (.int p3), .val (.int p4), .val (.int (v_rm0_0 p1 p2)), .val (.int (p3 &&& (7 : Int32))), .val (.int (jb p4)), .val (.ref b49), .unset, .unset] [])) (st87) ?_
  have tail : ∀ nn : Int32, nn = own_cnt (v_rm0_0 p1 p2) → K (T87.setTop (mkF m 169 #[.val (.int p1), .val (.int p2), .val (.int p3), .val (.int p4), .val (.int (v_rm0_0 p1 p2)), .val (.int (p3 &&& (7 : Int32))), .val (.int (jb p4)), .val (.ref b49), .val (.int nn), .unset] [])) := by
    intro nn hnn
    refine go _ (T87.setTop (mkF m 171 #[.val (.int p1), .val (.int p2), .val (.int p3), .val (.int p4), .val (.int (v_rm0_0 p1 p2)), .val (.int (p3 &&& (7 : Int32))), .val (.int (jb p4)), .val (.ref b49), .val (.int nn), .unset] [(.ref b49)])) (fun t k => XS.aload X87.here hx rfl (hb hby at_169) rfl rfl k) ?_
    refine go _ (T87.setTop (mkF m 173 #[.val (.int p1), .val (.int p2), .val (.int p3), .val (.int p4), .val (.int (v_rm0_0 p1 p2)), .val (.int (p3 &&& (7 : Int32))), .val (.int (jb p4)), .val (.ref b49), .val (.int nn), .unset] [(.int (p3 &&& (7 : Int32))), (.ref b49)])) (fun t k => XS.iload X87.here hx rfl (hb hby at_171) rfl k) ?_
    refine go _ (T87.setTop (mkF m 175 #[.val (.int p1), .val (.int p2), .val (.int p3), .val (.int p4), .val (.int (v_rm0_0 p1 p2)), .val (.int (p3 &&& (7 : Int32))), .val (.int (jb p4)), .val (.ref b49), .val (.int nn), .unset] [(.int (v_rm0_0 p1 p2)), (.int (p3 &&& (7 : Int32))), (.ref b49)])) (fun t k => XS.iload X87.here hx rfl (hb hby at_173) rfl k) ?_
    obtain ⟨_, _, ⟨T90, L90, k90, n90⟩, -, X90, ⟨Lc90, hQ90, l90, y90, z90⟩, st90⟩ := Jvm.LawKit.callS X87 hx (y := (⟨"com/example/keyspace_ledger/keyspaceledger/LengthPrefix", "write", "([BII)I"⟩ : MethodName)) hown (mvT hZ (hw _ (List.mem_of_getElem? (i := 2) rfl))) (mvT hZ (hw _ (List.mem_of_getElem? (i := 3) rfl))) (mvT hZ (hw _ (List.mem_of_getElem? (i := 4) rfl))) (mvT hZ (hw _ (List.mem_of_getElem? (i := 5) rfl))) (by decide) (backOf (W := 0) (rm1 l Z a0 hw [] b49 (p3 &&& (7 : Int32)) (v_rm0_0 p1 p2) _ 13 i h87 n0 Z88 A13 ge_b49 hj (by omega) hlp) hZ (hw _ (List.mem_of_getElem? (i := 5) rfl)) (hw _ (List.mem_of_getElem? (i := 4) rfl)) (by decide) (by decide)) (g := (mkF m 175 #[.val (.int p1), .val (.int p2), .val (.int p3), .val (.int p4), .val (.int (v_rm0_0 p1 p2)), .val (.int (p3 &&& (7 : Int32))), .val (.int (jb p4)), .val (.ref b49), .val (.int nn), .unset] [(.int (v_rm0_0 p1 p2)), (.int (p3 &&& (7 : Int32))), (.ref b49)])) rfl (by rw [hml]; rfl) (argsL := [(.ref b49), (.int (p3 &&& (7 : Int32))), (.int (v_rm0_0 p1 p2))]) (rest := []) (lenOf pd_1 rfl) rfl (by show 2 * 0 + _ ≤ _; exact Nat.le_of_eq rfl) (hb hby at_175) (fun _ _ => ⟨rfl, e87, (by decide : 0 + 1 + 0 ≤ _), (by decide : 0 + 13 + 0 ≤ _)⟩)
    dsimp only [Pt.U, Pt.locs, Pt.cells, Pt.slots] at X90 l90 y90 z90 st90 hQ90
    rw [l90, y90, z90] at X90
    obtain ⟨rfl, Nq90, Kq90, Aq90⟩ := hQ90
    have N91 := Fr.app N89 Nq90
    have X90 : Stand p l e room_1 s m _ below meth c T90 _ 1 13 := X90
    have Z92 : n0 ≤ T90.heap.size := Nat.le_trans Z88 Kq90.1
    refine go _ (T90.setTop (mkF m 178 #[.val (.int p1), .val (.int p2), .val (.int p3), .val (.int p4), .val (.int (v_rm0_0 p1 p2)), .val (.int (p3 &&& (7 : Int32))), .val (.int (jb p4)), .val (.ref b49), .val (.int nn), .unset] [(.int (own_end (p3 &&& (7 : Int32)) (v_rm0_0 p1 p2)))])) (st90) ?_
    refine go _ (T90.setTop (mkF m 180 #[.val (.int p1), .val (.int p2), .val (.int p3), .val (.int p4), .val (.int (v_rm0_0 p1 p2)), .val (.int (p3 &&& (7 : Int32))), .val (.int (jb p4)), .val (.ref b49), .val (.int nn), .val (.int (v_rm0_1 p3 p1 p2))] [])) (fun t k => XS.istore X90.here hx rfl (hb hby at_178) rfl (l' := #[.val (.int p1), .val (.int p2), .val (.int p3), .val (.int p4), .val (.int (v_rm0_0 p1 p2)), .val (.int (p3 &&& (7 : Int32))), .val (.int (jb p4)), .val (.ref b49), .val (.int nn), .val (.int (v_rm0_1 p3 p1 p2))]) rfl k) ?_
    refine go _ (T90.setTop (mkF m 182 #[.val (.int p1), .val (.int p2), .val (.int p3), .val (.int p4), .val (.int (v_rm0_0 p1 p2)), .val (.int (p3 &&& (7 : Int32))), .val (.int (jb p4)), .val (.ref b49), .val (.int nn), .val (.int (v_rm0_1 p3 p1 p2))] [(.int (v_rm0_1 p3 p1 p2))])) (fun t k => XS.iload X90.here hx rfl (hb hby at_180) rfl k) ?_
    refine go _ (T90.setTop (mkF m 184 #[.val (.int p1), .val (.int p2), .val (.int p3), .val (.int p4), .val (.int (v_rm0_0 p1 p2)), .val (.int (p3 &&& (7 : Int32))), .val (.int (jb p4)), .val (.ref b49), .val (.int nn), .val (.int (v_rm0_1 p3 p1 p2))] [(.int (p3 &&& (7 : Int32))), (.int (v_rm0_1 p3 p1 p2))])) (fun t k => XS.iload X90.here hx rfl (hb hby at_182) rfl k) ?_
    refine go _ (T90.setTop (mkF m 186 #[.val (.int p1), .val (.int p2), .val (.int p3), .val (.int p4), .val (.int (v_rm0_0 p1 p2)), .val (.int (p3 &&& (7 : Int32))), .val (.int (jb p4)), .val (.ref b49), .val (.int nn), .val (.int (v_rm0_1 p3 p1 p2))] [(.int nn), (.int (p3 &&& (7 : Int32))), (.int (v_rm0_1 p3 p1 p2))])) (fun t k => XS.iload X90.here hx rfl (hb hby at_184) rfl k) ?_
    refine go _ (T90.setTop (mkF m 187 #[.val (.int p1), .val (.int p2), .val (.int p3), .val (.int p4), .val (.int (v_rm0_0 p1 p2)), .val (.int (p3 &&& (7 : Int32))), .val (.int (jb p4)), .val (.ref b49), .val (.int nn), .val (.int (v_rm0_1 p3 p1 p2))] [(.int ((p3 &&& (7 : Int32)) + nn)), (.int (v_rm0_1 p3 p1 p2))])) (fun t k => XS.iadd X90.here hx rfl (hb hby at_186) rfl k) ?_
    have hc93 : ((v_rm0_1 p3 p1 p2) = ((p3 &&& (7 : Int32)) + nn)) := own_endq _ _ _ hlp hnn
    refine go _ (T90.setTop (mkF m 192 #[.val (.int p1), .val (.int p2), .val (.int p3), .val (.int p4), .val (.int (v_rm0_0 p1 p2)), .val (.int (p3 &&& (7 : Int32))), .val (.int (jb p4)), .val (.ref b49), .val (.int nn), .val (.int (v_rm0_1 p3 p1 p2))] [])) (fun t k => XS.icmpYes X90.here hx rfl (pc0 := 187) (pc' := 192) rfl (hb hby at_187) rfl (teq hc93).1 (by decide) (by decide) k) ?_
    refine go _ (T90.setTop (mkF m 194 #[.val (.int p1), .val (.int p2), .val (.int p3), .val (.int p4), .val (.int (v_rm0_0 p1 p2)), .val (.int (p3 &&& (7 : Int32))), .val (.int (jb p4)), .val (.ref b49), .val (.int nn), .val (.int (v_rm0_1 p3 p1 p2))] [(.ref b49)])) (fun t k => XS.aload X90.here hx rfl (hb hby at_192) rfl rfl k) ?_
    refine go _ (T90.setTop (mkF m 195 #[.val (.int p1), .val (.int p2), .val (.int p3), .val (.int p4), .val (.int (v_rm0_0 p1 p2)), .val (.int (p3 &&& (7 : Int32))), .val (.int (jb p4)), .val (.ref b49), .val (.int nn), .val (.int (v_rm0_1 p3 p1 p2))] [(.int (0 : Int32)), (.ref b49)])) (fun t k => XS.iconst X90.here hx rfl (hb hby at_194) k) ?_
    refine go _ (T90.setTop (mkF m 197 #[.val (.int p1), .val (.int p2), .val (.int p3), .val (.int p4), .val (.int (v_rm0_0 p1 p2)), .val (.int (p3 &&& (7 : Int32))), .val (.int (jb p4)), .val (.ref b49), .val (.int nn), .val (.int (v_rm0_1 p3 p1 p2))] [(.int (p3 &&& (7 : Int32))), (.int (0 : Int32)), (.ref b49)])) (fun t k => XS.iload X90.here hx rfl (hb hby at_195) rfl k) ?_
    refine go _ (T90.setTop (mkF m 199 #[.val (.int p1), .val (.int p2), .val (.int p3), .val (.int p4), .val (.int (v_rm0_0 p1 p2)), .val (.int (p3 &&& (7 : Int32))), .val (.int (jb p4)), .val (.ref b49), .val (.int nn), .val (.int (v_rm0_1 p3 p1 p2))] [(.int nn), (.int (p3 &&& (7 : Int32))), (.int (0 : Int32)), (.ref b49)])) (fun t k => XS.iload X90.here hx rfl (hb hby at_197) rfl k) ?_
    refine go _ (T90.setTop (mkF m 201 #[.val (.int p1), .val (.int p2), .val (.int p3), .val (.int p4), .val (.int (v_rm0_0 p1 p2)), .val (.int (p3 &&& (7 : Int32))), .val (.int (jb p4)), .val (.ref b49), .val (.int nn), .val (.int (v_rm0_1 p3 p1 p2))] [(.int (v_rm0_0 p1 p2)), (.int nn), (.int (p3 &&& (7 : Int32))), (.int (0 : Int32)), (.ref b49)])) (fun t k => XS.iload X90.here hx rfl (hb hby at_199) rfl k) ?_
    refine go _ (T90.setTop (mkF m 203 #[.val (.int p1), .val (.int p2), .val (.int p3), .val (.int p4), .val (.int (v_rm0_0 p1 p2)), .val (.int (p3 &&& (7 : Int32))), .val (.int (jb p4)), .val (.ref b49), .val (.int nn), .val (.int (v_rm0_1 p3 p1 p2))] [(.int (jb p4)), (.int (v_rm0_0 p1 p2)), (.int nn), (.int (p3 &&& (7 : Int32))), (.int (0 : Int32)), (.ref b49)])) (fun t k => XS.iload X90.here hx rfl (hb hby at_201) rfl k) ?_
    obtain ⟨y0, hv0, ha0⟩ := own_atok (jb p4) hj hi hlp hnn 0 (0 : Int32) (by decide) (by decide)
    obtain ⟨_, _, ⟨T94, L94, k94, n94⟩, -, X94, ⟨Lc94, hQ94, l94, y94, z94⟩, st94⟩ := Jvm.LawKit.callS X90 hx (y := (⟨"com/example/keyspace_ledger/keyspaceledger/LengthPrefixWritePinLaw", "at", "([BIIIIB)Z"⟩ : MethodName)) hown (mvT hZ (hw _ (List.mem_of_getElem? (i := 6) rfl))) (mvT hZ (hw _ (List.mem_of_getElem? (i := 7) rfl))) (mvT hZ (hw _ (List.mem_of_getElem? (i := 8) rfl))) (mvT hZ (hw _ (List.mem_of_getElem? (i := 9) rfl))) (by decide) (backOf (W := 0) (rm2 l Z a0 hw [] b49 (0 : Int32) (p3 &&& (7 : Int32)) nn (v_rm0_0 p1 p2) (jb p4) _ 13 0 y0 T90.heap n0 Z92 Aq90 (by decide) (by decide) hv0) hZ (hw _ (List.mem_of_getElem? (i := 9) rfl)) (hw _ (List.mem_of_getElem? (i := 8) rfl)) (by decide) (by decide)) (g := (mkF m 203 #[.val (.int p1), .val (.int p2), .val (.int p3), .val (.int p4), .val (.int (v_rm0_0 p1 p2)), .val (.int (p3 &&& (7 : Int32))), .val (.int (jb p4)), .val (.ref b49), .val (.int nn), .val (.int (v_rm0_1 p3 p1 p2))] [(.int (jb p4)), (.int (v_rm0_0 p1 p2)), (.int nn), (.int (p3 &&& (7 : Int32))), (.int (0 : Int32)), (.ref b49)])) rfl (by rw [hml]; rfl) (argsL := [(.ref b49), (.int (0 : Int32)), (.int (p3 &&& (7 : Int32))), (.int nn), (.int (v_rm0_0 p1 p2)), (.int (jb p4))]) (rest := []) (lenOf pd_2 rfl) rfl (by show 2 * 0 + _ ≤ _; exact Nat.le_of_eq rfl) (hb hby at_203) (fun _ _ => ⟨rfl, rfl, (by decide : 1 + 0 ≤ _), (by decide : 13 + 0 ≤ _)⟩)
    dsimp only [Pt.U, Pt.locs, Pt.cells, Pt.slots] at X94 l94 y94 z94 st94 hQ94
    rw [l94, y94, z94] at X94
    obtain ⟨rfl, Nq94, hh94⟩ := hQ94
    have N95 := Fr.app N91 Nq94
    have X94 : Stand p l e room_1 s m _ below meth c T94 _ 1 13 := X94
    refine go _ (T94.setTop (mkF m 206 #[.val (.int p1), .val (.int p2), .val (.int p3), .val (.int p4), .val (.int (v_rm0_0 p1 p2)), .val (.int (p3 &&& (7 : Int32))), .val (.int (jb p4)), .val (.ref b49), .val (.int nn), .val (.int (v_rm0_1 p3 p1 p2))] [(.int (own_at y0 (0 : Int32) (p3 &&& (7 : Int32)) nn (v_rm0_0 p1 p2) (jb p4)))])) (st94) ?_
    have hc96 : ¬ ((own_at y0 (0 : Int32) (p3 &&& (7 : Int32)) nn (v_rm0_0 p1 p2) (jb p4)) = (0 : Int32)) := (by rw [ha0]; decide)
    refine go _ (T94.setTop (mkF m 209 #[.val (.int p1), .val (.int p2), .val (.int p3), .val (.int p4), .val (.int (v_rm0_0 p1 p2)), .val (.int (p3 &&& (7 : Int32))), .val (.int (jb p4)), .val (.ref b49), .val (.int nn), .val (.int (v_rm0_1 p3 p1 p2))] [])) (fun t k => XS.ifNo X94.here hx rfl (hb hby at_206) rfl ((if0 _ _).trans (feq hc96).1) k) ?_
    refine go _ (T94.setTop (mkF m 211 #[.val (.int p1), .val (.int p2), .val (.int p3), .val (.int p4), .val (.int (v_rm0_0 p1 p2)), .val (.int (p3 &&& (7 : Int32))), .val (.int (jb p4)), .val (.ref b49), .val (.int nn), .val (.int (v_rm0_1 p3 p1 p2))] [(.ref b49)])) (fun t k => XS.aload X94.here hx rfl (hb hby at_209) rfl rfl k) ?_
    refine go _ (T94.setTop (mkF m 212 #[.val (.int p1), .val (.int p2), .val (.int p3), .val (.int p4), .val (.int (v_rm0_0 p1 p2)), .val (.int (p3 &&& (7 : Int32))), .val (.int (jb p4)), .val (.ref b49), .val (.int nn), .val (.int (v_rm0_1 p3 p1 p2))] [(.int (1 : Int32)), (.ref b49)])) (fun t k => XS.iconst X94.here hx rfl (hb hby at_211) k) ?_
    refine go _ (T94.setTop (mkF m 214 #[.val (.int p1), .val (.int p2), .val (.int p3), .val (.int p4), .val (.int (v_rm0_0 p1 p2)), .val (.int (p3 &&& (7 : Int32))), .val (.int (jb p4)), .val (.ref b49), .val (.int nn), .val (.int (v_rm0_1 p3 p1 p2))] [(.int (p3 &&& (7 : Int32))), (.int (1 : Int32)), (.ref b49)])) (fun t k => XS.iload X94.here hx rfl (hb hby at_212) rfl k) ?_
    refine go _ (T94.setTop (mkF m 216 #[.val (.int p1), .val (.int p2), .val (.int p3), .val (.int p4), .val (.int (v_rm0_0 p1 p2)), .val (.int (p3 &&& (7 : Int32))), .val (.int (jb p4)), .val (.ref b49), .val (.int nn), .val (.int (v_rm0_1 p3 p1 p2))] [(.int nn), (.int (p3 &&& (7 : Int32))), (.int (1 : Int32)), (.ref b49)])) (fun t k => XS.iload X94.here hx rfl (hb hby at_214) rfl k) ?_
    refine go _ (T94.setTop (mkF m 218 #[.val (.int p1), .val (.int p2), .val (.int p3), .val (.int p4), .val (.int (v_rm0_0 p1 p2)), .val (.int (p3 &&& (7 : Int32))), .val (.int (jb p4)), .val (.ref b49), .val (.int nn), .val (.int (v_rm0_1 p3 p1 p2))] [(.int (v_rm0_0 p1 p2)), (.int nn), (.int (p3 &&& (7 : Int32))), (.int (1 : Int32)), (.ref b49)])) (fun t k => XS.iload X94.here hx rfl (hb hby at_216) rfl k) ?_
    refine go _ (T94.setTop (mkF m 220 #[.val (.int p1), .val (.int p2), .val (.int p3), .val (.int p4), .val (.int (v_rm0_0 p1 p2)), .val (.int (p3 &&& (7 : Int32))), .val (.int (jb p4)), .val (.ref b49), .val (.int nn), .val (.int (v_rm0_1 p3 p1 p2))] [(.int (jb p4)), (.int (v_rm0_0 p1 p2)), (.int nn), (.int (p3 &&& (7 : Int32))), (.int (1 : Int32)), (.ref b49)])) (fun t k => XS.iload X94.here hx rfl (hb hby at_218) rfl k) ?_
    obtain ⟨y1, hv1, ha1⟩ := own_atok (jb p4) hj hi hlp hnn 1 (1 : Int32) (by decide) (by decide)
    obtain ⟨_, _, ⟨T97, L97, k97, n97⟩, -, X97, ⟨Lc97, hQ97, l97, y97, z97⟩, st97⟩ := Jvm.LawKit.callS X94 hx (y := (⟨"com/example/keyspace_ledger/keyspaceledger/LengthPrefixWritePinLaw", "at", "([BIIIIB)Z"⟩ : MethodName)) hown (mvT hZ (hw _ (List.mem_of_getElem? (i := 6) rfl))) (mvT hZ (hw _ (List.mem_of_getElem? (i := 7) rfl))) (mvT hZ (hw _ (List.mem_of_getElem? (i := 8) rfl))) (mvT hZ (hw _ (List.mem_of_getElem? (i := 9) rfl))) (by decide) (backOf (W := 0) (rm2 l Z a0 hw [] b49 (1 : Int32) (p3 &&& (7 : Int32)) nn (v_rm0_0 p1 p2) (jb p4) _ 13 1 y1 T90.heap n0 Z92 Aq90 (by decide) (by decide) hv1) hZ (hw _ (List.mem_of_getElem? (i := 9) rfl)) (hw _ (List.mem_of_getElem? (i := 8) rfl)) (by decide) (by decide)) (g := (mkF m 220 #[.val (.int p1), .val (.int p2), .val (.int p3), .val (.int p4), .val (.int (v_rm0_0 p1 p2)), .val (.int (p3 &&& (7 : Int32))), .val (.int (jb p4)), .val (.ref b49), .val (.int nn), .val (.int (v_rm0_1 p3 p1 p2))] [(.int (jb p4)), (.int (v_rm0_0 p1 p2)), (.int nn), (.int (p3 &&& (7 : Int32))), (.int (1 : Int32)), (.ref b49)])) rfl (by rw [hml]; rfl) (argsL := [(.ref b49), (.int (1 : Int32)), (.int (p3 &&& (7 : Int32))), (.int nn), (.int (v_rm0_0 p1 p2)), (.int (jb p4))]) (rest := []) (lenOf pd_2 rfl) rfl (by show 2 * 0 + _ ≤ _; exact Nat.le_of_eq rfl) (hb hby at_220) (fun _ _ => ⟨rfl, hh94, (by decide : 1 + 0 ≤ _), (by decide : 13 + 0 ≤ _)⟩)
    dsimp only [Pt.U, Pt.locs, Pt.cells, Pt.slots] at X97 l97 y97 z97 st97 hQ97
    rw [l97, y97, z97] at X97
    obtain ⟨rfl, Nq97, hh97⟩ := hQ97
    have N98 := Fr.app N95 Nq97
    have X97 : Stand p l e room_1 s m _ below meth c T97 _ 1 13 := X97
    refine go _ (T97.setTop (mkF m 223 #[.val (.int p1), .val (.int p2), .val (.int p3), .val (.int p4), .val (.int (v_rm0_0 p1 p2)), .val (.int (p3 &&& (7 : Int32))), .val (.int (jb p4)), .val (.ref b49), .val (.int nn), .val (.int (v_rm0_1 p3 p1 p2))] [(.int (own_at y1 (1 : Int32) (p3 &&& (7 : Int32)) nn (v_rm0_0 p1 p2) (jb p4)))])) (st97) ?_
    have hc99 : ¬ ((own_at y1 (1 : Int32) (p3 &&& (7 : Int32)) nn (v_rm0_0 p1 p2) (jb p4)) = (0 : Int32)) := (by rw [ha1]; decide)
    refine go _ (T97.setTop (mkF m 226 #[.val (.int p1), .val (.int p2), .val (.int p3), .val (.int p4), .val (.int (v_rm0_0 p1 p2)), .val (.int (p3 &&& (7 : Int32))), .val (.int (jb p4)), .val (.ref b49), .val (.int nn), .val (.int (v_rm0_1 p3 p1 p2))] [])) (fun t k => XS.ifNo X97.here hx rfl (hb hby at_223) rfl ((if0 _ _).trans (feq hc99).1) k) ?_
    refine go _ (T97.setTop (mkF m 228 #[.val (.int p1), .val (.int p2), .val (.int p3), .val (.int p4), .val (.int (v_rm0_0 p1 p2)), .val (.int (p3 &&& (7 : Int32))), .val (.int (jb p4)), .val (.ref b49), .val (.int nn), .val (.int (v_rm0_1 p3 p1 p2))] [(.ref b49)])) (fun t k => XS.aload X97.here hx rfl (hb hby at_226) rfl rfl k) ?_
    refine go _ (T97.setTop (mkF m 229 #[.val (.int p1), .val (.int p2), .val (.int p3), .val (.int p4), .val (.int (v_rm0_0 p1 p2)), .val (.int (p3 &&& (7 : Int32))), .val (.int (jb p4)), .val (.ref b49), .val (.int nn), .val (.int (v_rm0_1 p3 p1 p2))] [(.int (2 : Int32)), (.ref b49)])) (fun t k => XS.iconst X97.here hx rfl (hb hby at_228) k) ?_
    refine go _ (T97.setTop (mkF m 231 #[.val (.int p1), .val (.int p2), .val (.int p3), .val (.int p4), .val (.int (v_rm0_0 p1 p2)), .val (.int (p3 &&& (7 : Int32))), .val (.int (jb p4)), .val (.ref b49), .val (.int nn), .val (.int (v_rm0_1 p3 p1 p2))] [(.int (p3 &&& (7 : Int32))), (.int (2 : Int32)), (.ref b49)])) (fun t k => XS.iload X97.here hx rfl (hb hby at_229) rfl k) ?_
    refine go _ (T97.setTop (mkF m 233 #[.val (.int p1), .val (.int p2), .val (.int p3), .val (.int p4), .val (.int (v_rm0_0 p1 p2)), .val (.int (p3 &&& (7 : Int32))), .val (.int (jb p4)), .val (.ref b49), .val (.int nn), .val (.int (v_rm0_1 p3 p1 p2))] [(.int nn), (.int (p3 &&& (7 : Int32))), (.int (2 : Int32)), (.ref b49)])) (fun t k => XS.iload X97.here hx rfl (hb hby at_231) rfl k) ?_
    refine go _ (T97.setTop (mkF m 235 #[.val (.int p1), .val (.int p2), .val (.int p3), .val (.int p4), .val (.int (v_rm0_0 p1 p2)), .val (.int (p3 &&& (7 : Int32))), .val (.int (jb p4)), .val (.ref b49), .val (.int nn), .val (.int (v_rm0_1 p3 p1 p2))] [(.int (v_rm0_0 p1 p2)), (.int nn), (.int (p3 &&& (7 : Int32))), (.int (2 : Int32)), (.ref b49)])) (fun t k => XS.iload X97.here hx rfl (hb hby at_233) rfl k) ?_
    refine go _ (T97.setTop (mkF m 237 #[.val (.int p1), .val (.int p2), .val (.int p3), .val (.int p4), .val (.int (v_rm0_0 p1 p2)), .val (.int (p3 &&& (7 : Int32))), .val (.int (jb p4)), .val (.ref b49), .val (.int nn), .val (.int (v_rm0_1 p3 p1 p2))] [(.int (jb p4)), (.int (v_rm0_0 p1 p2)), (.int nn), (.int (p3 &&& (7 : Int32))), (.int (2 : Int32)), (.ref b49)])) (fun t k => XS.iload X97.here hx rfl (hb hby at_235) rfl k) ?_
    obtain ⟨y2, hv2, ha2⟩ := own_atok (jb p4) hj hi hlp hnn 2 (2 : Int32) (by decide) (by decide)
    obtain ⟨_, _, ⟨T100, L100, k100, n100⟩, -, X100, ⟨Lc100, hQ100, l100, y100, z100⟩, st100⟩ := Jvm.LawKit.callS X97 hx (y := (⟨"com/example/keyspace_ledger/keyspaceledger/LengthPrefixWritePinLaw", "at", "([BIIIIB)Z"⟩ : MethodName)) hown (mvT hZ (hw _ (List.mem_of_getElem? (i := 6) rfl))) (mvT hZ (hw _ (List.mem_of_getElem? (i := 7) rfl))) (mvT hZ (hw _ (List.mem_of_getElem? (i := 8) rfl))) (mvT hZ (hw _ (List.mem_of_getElem? (i := 9) rfl))) (by decide) (backOf (W := 0) (rm2 l Z a0 hw [] b49 (2 : Int32) (p3 &&& (7 : Int32)) nn (v_rm0_0 p1 p2) (jb p4) _ 13 2 y2 T90.heap n0 Z92 Aq90 (by decide) (by decide) hv2) hZ (hw _ (List.mem_of_getElem? (i := 9) rfl)) (hw _ (List.mem_of_getElem? (i := 8) rfl)) (by decide) (by decide)) (g := (mkF m 237 #[.val (.int p1), .val (.int p2), .val (.int p3), .val (.int p4), .val (.int (v_rm0_0 p1 p2)), .val (.int (p3 &&& (7 : Int32))), .val (.int (jb p4)), .val (.ref b49), .val (.int nn), .val (.int (v_rm0_1 p3 p1 p2))] [(.int (jb p4)), (.int (v_rm0_0 p1 p2)), (.int nn), (.int (p3 &&& (7 : Int32))), (.int (2 : Int32)), (.ref b49)])) rfl (by rw [hml]; rfl) (argsL := [(.ref b49), (.int (2 : Int32)), (.int (p3 &&& (7 : Int32))), (.int nn), (.int (v_rm0_0 p1 p2)), (.int (jb p4))]) (rest := []) (lenOf pd_2 rfl) rfl (by show 2 * 0 + _ ≤ _; exact Nat.le_of_eq rfl) (hb hby at_237) (fun _ _ => ⟨rfl, hh97, (by decide : 1 + 0 ≤ _), (by decide : 13 + 0 ≤ _)⟩)
    dsimp only [Pt.U, Pt.locs, Pt.cells, Pt.slots] at X100 l100 y100 z100 st100 hQ100
    rw [l100, y100, z100] at X100
    obtain ⟨rfl, Nq100, hh100⟩ := hQ100
    have N101 := Fr.app N98 Nq100
    have X100 : Stand p l e room_1 s m _ below meth c T100 _ 1 13 := X100
    refine go _ (T100.setTop (mkF m 240 #[.val (.int p1), .val (.int p2), .val (.int p3), .val (.int p4), .val (.int (v_rm0_0 p1 p2)), .val (.int (p3 &&& (7 : Int32))), .val (.int (jb p4)), .val (.ref b49), .val (.int nn), .val (.int (v_rm0_1 p3 p1 p2))] [(.int (own_at y2 (2 : Int32) (p3 &&& (7 : Int32)) nn (v_rm0_0 p1 p2) (jb p4)))])) (st100) ?_
    have hc102 : ¬ ((own_at y2 (2 : Int32) (p3 &&& (7 : Int32)) nn (v_rm0_0 p1 p2) (jb p4)) = (0 : Int32)) := (by rw [ha2]; decide)
    refine go _ (T100.setTop (mkF m 243 #[.val (.int p1), .val (.int p2), .val (.int p3), .val (.int p4), .val (.int (v_rm0_0 p1 p2)), .val (.int (p3 &&& (7 : Int32))), .val (.int (jb p4)), .val (.ref b49), .val (.int nn), .val (.int (v_rm0_1 p3 p1 p2))] [])) (fun t k => XS.ifNo X100.here hx rfl (hb hby at_240) rfl ((if0 _ _).trans (feq hc102).1) k) ?_
    refine go _ (T100.setTop (mkF m 245 #[.val (.int p1), .val (.int p2), .val (.int p3), .val (.int p4), .val (.int (v_rm0_0 p1 p2)), .val (.int (p3 &&& (7 : Int32))), .val (.int (jb p4)), .val (.ref b49), .val (.int nn), .val (.int (v_rm0_1 p3 p1 p2))] [(.ref b49)])) (fun t k => XS.aload X100.here hx rfl (hb hby at_243) rfl rfl k) ?_
    refine go _ (T100.setTop (mkF m 246 #[.val (.int p1), .val (.int p2), .val (.int p3), .val (.int p4), .val (.int (v_rm0_0 p1 p2)), .val (.int (p3 &&& (7 : Int32))), .val (.int (jb p4)), .val (.ref b49), .val (.int nn), .val (.int (v_rm0_1 p3 p1 p2))] [(.int (3 : Int32)), (.ref b49)])) (fun t k => XS.iconst X100.here hx rfl (hb hby at_245) k) ?_
    refine go _ (T100.setTop (mkF m 248 #[.val (.int p1), .val (.int p2), .val (.int p3), .val (.int p4), .val (.int (v_rm0_0 p1 p2)), .val (.int (p3 &&& (7 : Int32))), .val (.int (jb p4)), .val (.ref b49), .val (.int nn), .val (.int (v_rm0_1 p3 p1 p2))] [(.int (p3 &&& (7 : Int32))), (.int (3 : Int32)), (.ref b49)])) (fun t k => XS.iload X100.here hx rfl (hb hby at_246) rfl k) ?_
    refine go _ (T100.setTop (mkF m 250 #[.val (.int p1), .val (.int p2), .val (.int p3), .val (.int p4), .val (.int (v_rm0_0 p1 p2)), .val (.int (p3 &&& (7 : Int32))), .val (.int (jb p4)), .val (.ref b49), .val (.int nn), .val (.int (v_rm0_1 p3 p1 p2))] [(.int nn), (.int (p3 &&& (7 : Int32))), (.int (3 : Int32)), (.ref b49)])) (fun t k => XS.iload X100.here hx rfl (hb hby at_248) rfl k) ?_
    refine go _ (T100.setTop (mkF m 252 #[.val (.int p1), .val (.int p2), .val (.int p3), .val (.int p4), .val (.int (v_rm0_0 p1 p2)), .val (.int (p3 &&& (7 : Int32))), .val (.int (jb p4)), .val (.ref b49), .val (.int nn), .val (.int (v_rm0_1 p3 p1 p2))] [(.int (v_rm0_0 p1 p2)), (.int nn), (.int (p3 &&& (7 : Int32))), (.int (3 : Int32)), (.ref b49)])) (fun t k => XS.iload X100.here hx rfl (hb hby at_250) rfl k) ?_
    refine go _ (T100.setTop (mkF m 254 #[.val (.int p1), .val (.int p2), .val (.int p3), .val (.int p4), .val (.int (v_rm0_0 p1 p2)), .val (.int (p3 &&& (7 : Int32))), .val (.int (jb p4)), .val (.ref b49), .val (.int nn), .val (.int (v_rm0_1 p3 p1 p2))] [(.int (jb p4)), (.int (v_rm0_0 p1 p2)), (.int nn), (.int (p3 &&& (7 : Int32))), (.int (3 : Int32)), (.ref b49)])) (fun t k => XS.iload X100.here hx rfl (hb hby at_252) rfl k) ?_
    obtain ⟨y3, hv3, ha3⟩ := own_atok (jb p4) hj hi hlp hnn 3 (3 : Int32) (by decide) (by decide)
    obtain ⟨_, _, ⟨T103, L103, k103, n103⟩, -, X103, ⟨Lc103, hQ103, l103, y103, z103⟩, st103⟩ := Jvm.LawKit.callS X100 hx (y := (⟨"com/example/keyspace_ledger/keyspaceledger/LengthPrefixWritePinLaw", "at", "([BIIIIB)Z"⟩ : MethodName)) hown (mvT hZ (hw _ (List.mem_of_getElem? (i := 6) rfl))) (mvT hZ (hw _ (List.mem_of_getElem? (i := 7) rfl))) (mvT hZ (hw _ (List.mem_of_getElem? (i := 8) rfl))) (mvT hZ (hw _ (List.mem_of_getElem? (i := 9) rfl))) (by decide) (backOf (W := 0) (rm2 l Z a0 hw [] b49 (3 : Int32) (p3 &&& (7 : Int32)) nn (v_rm0_0 p1 p2) (jb p4) _ 13 3 y3 T90.heap n0 Z92 Aq90 (by decide) (by decide) hv3) hZ (hw _ (List.mem_of_getElem? (i := 9) rfl)) (hw _ (List.mem_of_getElem? (i := 8) rfl)) (by decide) (by decide)) (g := (mkF m 254 #[.val (.int p1), .val (.int p2), .val (.int p3), .val (.int p4), .val (.int (v_rm0_0 p1 p2)), .val (.int (p3 &&& (7 : Int32))), .val (.int (jb p4)), .val (.ref b49), .val (.int nn), .val (.int (v_rm0_1 p3 p1 p2))] [(.int (jb p4)), (.int (v_rm0_0 p1 p2)), (.int nn), (.int (p3 &&& (7 : Int32))), (.int (3 : Int32)), (.ref b49)])) rfl (by rw [hml]; rfl) (argsL := [(.ref b49), (.int (3 : Int32)), (.int (p3 &&& (7 : Int32))), (.int nn), (.int (v_rm0_0 p1 p2)), (.int (jb p4))]) (rest := []) (lenOf pd_2 rfl) rfl (by show 2 * 0 + _ ≤ _; exact Nat.le_of_eq rfl) (hb hby at_254) (fun _ _ => ⟨rfl, hh100, (by decide : 1 + 0 ≤ _), (by decide : 13 + 0 ≤ _)⟩)
    dsimp only [Pt.U, Pt.locs, Pt.cells, Pt.slots] at X103 l103 y103 z103 st103 hQ103
    rw [l103, y103, z103] at X103
    obtain ⟨rfl, Nq103, hh103⟩ := hQ103
    have N104 := Fr.app N101 Nq103
    have X103 : Stand p l e room_1 s m _ below meth c T103 _ 1 13 := X103
    refine go _ (T103.setTop (mkF m 257 #[.val (.int p1), .val (.int p2), .val (.int p3), .val (.int p4), .val (.int (v_rm0_0 p1 p2)), .val (.int (p3 &&& (7 : Int32))), .val (.int (jb p4)), .val (.ref b49), .val (.int nn), .val (.int (v_rm0_1 p3 p1 p2))] [(.int (own_at y3 (3 : Int32) (p3 &&& (7 : Int32)) nn (v_rm0_0 p1 p2) (jb p4)))])) (st103) ?_
    have hc105 : ¬ ((own_at y3 (3 : Int32) (p3 &&& (7 : Int32)) nn (v_rm0_0 p1 p2) (jb p4)) = (0 : Int32)) := (by rw [ha3]; decide)
    refine go _ (T103.setTop (mkF m 260 #[.val (.int p1), .val (.int p2), .val (.int p3), .val (.int p4), .val (.int (v_rm0_0 p1 p2)), .val (.int (p3 &&& (7 : Int32))), .val (.int (jb p4)), .val (.ref b49), .val (.int nn), .val (.int (v_rm0_1 p3 p1 p2))] [])) (fun t k => XS.ifNo X103.here hx rfl (hb hby at_257) rfl ((if0 _ _).trans (feq hc105).1) k) ?_
    refine go _ (T103.setTop (mkF m 262 #[.val (.int p1), .val (.int p2), .val (.int p3), .val (.int p4), .val (.int (v_rm0_0 p1 p2)), .val (.int (p3 &&& (7 : Int32))), .val (.int (jb p4)), .val (.ref b49), .val (.int nn), .val (.int (v_rm0_1 p3 p1 p2))] [(.ref b49)])) (fun t k => XS.aload X103.here hx rfl (hb hby at_260) rfl rfl k) ?_
    refine go _ (T103.setTop (mkF m 263 #[.val (.int p1), .val (.int p2), .val (.int p3), .val (.int p4), .val (.int (v_rm0_0 p1 p2)), .val (.int (p3 &&& (7 : Int32))), .val (.int (jb p4)), .val (.ref b49), .val (.int nn), .val (.int (v_rm0_1 p3 p1 p2))] [(.int (4 : Int32)), (.ref b49)])) (fun t k => XS.iconst X103.here hx rfl (hb hby at_262) k) ?_
    refine go _ (T103.setTop (mkF m 265 #[.val (.int p1), .val (.int p2), .val (.int p3), .val (.int p4), .val (.int (v_rm0_0 p1 p2)), .val (.int (p3 &&& (7 : Int32))), .val (.int (jb p4)), .val (.ref b49), .val (.int nn), .val (.int (v_rm0_1 p3 p1 p2))] [(.int (p3 &&& (7 : Int32))), (.int (4 : Int32)), (.ref b49)])) (fun t k => XS.iload X103.here hx rfl (hb hby at_263) rfl k) ?_
    refine go _ (T103.setTop (mkF m 267 #[.val (.int p1), .val (.int p2), .val (.int p3), .val (.int p4), .val (.int (v_rm0_0 p1 p2)), .val (.int (p3 &&& (7 : Int32))), .val (.int (jb p4)), .val (.ref b49), .val (.int nn), .val (.int (v_rm0_1 p3 p1 p2))] [(.int nn), (.int (p3 &&& (7 : Int32))), (.int (4 : Int32)), (.ref b49)])) (fun t k => XS.iload X103.here hx rfl (hb hby at_265) rfl k) ?_
    refine go _ (T103.setTop (mkF m 269 #[.val (.int p1), .val (.int p2), .val (.int p3), .val (.int p4), .val (.int (v_rm0_0 p1 p2)), .val (.int (p3 &&& (7 : Int32))), .val (.int (jb p4)), .val (.ref b49), .val (.int nn), .val (.int (v_rm0_1 p3 p1 p2))] [(.int (v_rm0_0 p1 p2)), (.int nn), (.int (p3 &&& (7 : Int32))), (.int (4 : Int32)), (.ref b49)])) (fun t k => XS.iload X103.here hx rfl (hb hby at_267) rfl k) ?_
    refine go _ (T103.setTop (mkF m 271 #[.val (.int p1), .val (.int p2), .val (.int p3), .val (.int p4), .val (.int (v_rm0_0 p1 p2)), .val (.int (p3 &&& (7 : Int32))), .val (.int (jb p4)), .val (.ref b49), .val (.int nn), .val (.int (v_rm0_1 p3 p1 p2))] [(.int (jb p4)), (.int (v_rm0_0 p1 p2)), (.int nn), (.int (p3 &&& (7 : Int32))), (.int (4 : Int32)), (.ref b49)])) (fun t k => XS.iload X103.here hx rfl (hb hby at_269) rfl k) ?_
    obtain ⟨y4, hv4, ha4⟩ := own_atok (jb p4) hj hi hlp hnn 4 (4 : Int32) (by decide) (by decide)
    obtain ⟨_, _, ⟨T106, L106, k106, n106⟩, -, X106, ⟨Lc106, hQ106, l106, y106, z106⟩, st106⟩ := Jvm.LawKit.callS X103 hx (y := (⟨"com/example/keyspace_ledger/keyspaceledger/LengthPrefixWritePinLaw", "at", "([BIIIIB)Z"⟩ : MethodName)) hown (mvT hZ (hw _ (List.mem_of_getElem? (i := 6) rfl))) (mvT hZ (hw _ (List.mem_of_getElem? (i := 7) rfl))) (mvT hZ (hw _ (List.mem_of_getElem? (i := 8) rfl))) (mvT hZ (hw _ (List.mem_of_getElem? (i := 9) rfl))) (by decide) (backOf (W := 0) (rm2 l Z a0 hw [] b49 (4 : Int32) (p3 &&& (7 : Int32)) nn (v_rm0_0 p1 p2) (jb p4) _ 13 4 y4 T90.heap n0 Z92 Aq90 (by decide) (by decide) hv4) hZ (hw _ (List.mem_of_getElem? (i := 9) rfl)) (hw _ (List.mem_of_getElem? (i := 8) rfl)) (by decide) (by decide)) (g := (mkF m 271 #[.val (.int p1), .val (.int p2), .val (.int p3), .val (.int p4), .val (.int (v_rm0_0 p1 p2)), .val (.int (p3 &&& (7 : Int32))), .val (.int (jb p4)), .val (.ref b49), .val (.int nn), .val (.int (v_rm0_1 p3 p1 p2))] [(.int (jb p4)), (.int (v_rm0_0 p1 p2)), (.int nn), (.int (p3 &&& (7 : Int32))), (.int (4 : Int32)), (.ref b49)])) rfl (by rw [hml]; rfl) (argsL := [(.ref b49), (.int (4 : Int32)), (.int (p3 &&& (7 : Int32))), (.int nn), (.int (v_rm0_0 p1 p2)), (.int (jb p4))]) (rest := []) (lenOf pd_2 rfl) rfl (by show 2 * 0 + _ ≤ _; exact Nat.le_of_eq rfl) (hb hby at_271) (fun _ _ => ⟨rfl, hh103, (by decide : 1 + 0 ≤ _), (by decide : 13 + 0 ≤ _)⟩)
    dsimp only [Pt.U, Pt.locs, Pt.cells, Pt.slots] at X106 l106 y106 z106 st106 hQ106
    rw [l106, y106, z106] at X106
    obtain ⟨rfl, Nq106, hh106⟩ := hQ106
    have N107 := Fr.app N104 Nq106
    have X106 : Stand p l e room_1 s m _ below meth c T106 _ 1 13 := X106
    refine go _ (T106.setTop (mkF m 274 #[.val (.int p1), .val (.int p2), .val (.int p3), .val (.int p4), .val (.int (v_rm0_0 p1 p2)), .val (.int (p3 &&& (7 : Int32))), .val (.int (jb p4)), .val (.ref b49), .val (.int nn), .val (.int (v_rm0_1 p3 p1 p2))] [(.int (own_at y4 (4 : Int32) (p3 &&& (7 : Int32)) nn (v_rm0_0 p1 p2) (jb p4)))])) (st106) ?_
    have hc108 : ¬ ((own_at y4 (4 : Int32) (p3 &&& (7 : Int32)) nn (v_rm0_0 p1 p2) (jb p4)) = (0 : Int32)) := (by rw [ha4]; decide)
    refine go _ (T106.setTop (mkF m 277 #[.val (.int p1), .val (.int p2), .val (.int p3), .val (.int p4), .val (.int (v_rm0_0 p1 p2)), .val (.int (p3 &&& (7 : Int32))), .val (.int (jb p4)), .val (.ref b49), .val (.int nn), .val (.int (v_rm0_1 p3 p1 p2))] [])) (fun t k => XS.ifNo X106.here hx rfl (hb hby at_274) rfl ((if0 _ _).trans (feq hc108).1) k) ?_
    refine go _ (T106.setTop (mkF m 279 #[.val (.int p1), .val (.int p2), .val (.int p3), .val (.int p4), .val (.int (v_rm0_0 p1 p2)), .val (.int (p3 &&& (7 : Int32))), .val (.int (jb p4)), .val (.ref b49), .val (.int nn), .val (.int (v_rm0_1 p3 p1 p2))] [(.ref b49)])) (fun t k => XS.aload X106.here hx rfl (hb hby at_277) rfl rfl k) ?_
    refine go _ (T106.setTop (mkF m 280 #[.val (.int p1), .val (.int p2), .val (.int p3), .val (.int p4), .val (.int (v_rm0_0 p1 p2)), .val (.int (p3 &&& (7 : Int32))), .val (.int (jb p4)), .val (.ref b49), .val (.int nn), .val (.int (v_rm0_1 p3 p1 p2))] [(.int (5 : Int32)), (.ref b49)])) (fun t k => XS.iconst X106.here hx rfl (hb hby at_279) k) ?_
    refine go _ (T106.setTop (mkF m 282 #[.val (.int p1), .val (.int p2), .val (.int p3), .val (.int p4), .val (.int (v_rm0_0 p1 p2)), .val (.int (p3 &&& (7 : Int32))), .val (.int (jb p4)), .val (.ref b49), .val (.int nn), .val (.int (v_rm0_1 p3 p1 p2))] [(.int (p3 &&& (7 : Int32))), (.int (5 : Int32)), (.ref b49)])) (fun t k => XS.iload X106.here hx rfl (hb hby at_280) rfl k) ?_
    refine go _ (T106.setTop (mkF m 284 #[.val (.int p1), .val (.int p2), .val (.int p3), .val (.int p4), .val (.int (v_rm0_0 p1 p2)), .val (.int (p3 &&& (7 : Int32))), .val (.int (jb p4)), .val (.ref b49), .val (.int nn), .val (.int (v_rm0_1 p3 p1 p2))] [(.int nn), (.int (p3 &&& (7 : Int32))), (.int (5 : Int32)), (.ref b49)])) (fun t k => XS.iload X106.here hx rfl (hb hby at_282) rfl k) ?_
    refine go _ (T106.setTop (mkF m 286 #[.val (.int p1), .val (.int p2), .val (.int p3), .val (.int p4), .val (.int (v_rm0_0 p1 p2)), .val (.int (p3 &&& (7 : Int32))), .val (.int (jb p4)), .val (.ref b49), .val (.int nn), .val (.int (v_rm0_1 p3 p1 p2))] [(.int (v_rm0_0 p1 p2)), (.int nn), (.int (p3 &&& (7 : Int32))), (.int (5 : Int32)), (.ref b49)])) (fun t k => XS.iload X106.here hx rfl (hb hby at_284) rfl k) ?_
    refine go _ (T106.setTop (mkF m 288 #[.val (.int p1), .val (.int p2), .val (.int p3), .val (.int p4), .val (.int (v_rm0_0 p1 p2)), .val (.int (p3 &&& (7 : Int32))), .val (.int (jb p4)), .val (.ref b49), .val (.int nn), .val (.int (v_rm0_1 p3 p1 p2))] [(.int (jb p4)), (.int (v_rm0_0 p1 p2)), (.int nn), (.int (p3 &&& (7 : Int32))), (.int (5 : Int32)), (.ref b49)])) (fun t k => XS.iload X106.here hx rfl (hb hby at_286) rfl k) ?_
    obtain ⟨y5, hv5, ha5⟩ := own_atok (jb p4) hj hi hlp hnn 5 (5 : Int32) (by decide) (by decide)
    obtain ⟨_, _, ⟨T109, L109, k109, n109⟩, -, X109, ⟨Lc109, hQ109, l109, y109, z109⟩, st109⟩ := Jvm.LawKit.callS X106 hx (y := (⟨"com/example/keyspace_ledger/keyspaceledger/LengthPrefixWritePinLaw", "at", "([BIIIIB)Z"⟩ : MethodName)) hown (mvT hZ (hw _ (List.mem_of_getElem? (i := 6) rfl))) (mvT hZ (hw _ (List.mem_of_getElem? (i := 7) rfl))) (mvT hZ (hw _ (List.mem_of_getElem? (i := 8) rfl))) (mvT hZ (hw _ (List.mem_of_getElem? (i := 9) rfl))) (by decide) (backOf (W := 0) (rm2 l Z a0 hw [] b49 (5 : Int32) (p3 &&& (7 : Int32)) nn (v_rm0_0 p1 p2) (jb p4) _ 13 5 y5 T90.heap n0 Z92 Aq90 (by decide) (by decide) hv5) hZ (hw _ (List.mem_of_getElem? (i := 9) rfl)) (hw _ (List.mem_of_getElem? (i := 8) rfl)) (by decide) (by decide)) (g := (mkF m 288 #[.val (.int p1), .val (.int p2), .val (.int p3), .val (.int p4), .val (.int (v_rm0_0 p1 p2)), .val (.int (p3 &&& (7 : Int32))), .val (.int (jb p4)), .val (.ref b49), .val (.int nn), .val (.int (v_rm0_1 p3 p1 p2))] [(.int (jb p4)), (.int (v_rm0_0 p1 p2)), (.int nn), (.int (p3 &&& (7 : Int32))), (.int (5 : Int32)), (.ref b49)])) rfl (by rw [hml]; rfl) (argsL := [(.ref b49), (.int (5 : Int32)), (.int (p3 &&& (7 : Int32))), (.int nn), (.int (v_rm0_0 p1 p2)), (.int (jb p4))]) (rest := []) (lenOf pd_2 rfl) rfl (by show 2 * 0 + _ ≤ _; exact Nat.le_of_eq rfl) (hb hby at_288) (fun _ _ => ⟨rfl, hh106, (by decide : 1 + 0 ≤ _), (by decide : 13 + 0 ≤ _)⟩)
    dsimp only [Pt.U, Pt.locs, Pt.cells, Pt.slots] at X109 l109 y109 z109 st109 hQ109
    rw [l109, y109, z109] at X109
    obtain ⟨rfl, Nq109, hh109⟩ := hQ109
    have N110 := Fr.app N107 Nq109
    have X109 : Stand p l e room_1 s m _ below meth c T109 _ 1 13 := X109
    refine go _ (T109.setTop (mkF m 291 #[.val (.int p1), .val (.int p2), .val (.int p3), .val (.int p4), .val (.int (v_rm0_0 p1 p2)), .val (.int (p3 &&& (7 : Int32))), .val (.int (jb p4)), .val (.ref b49), .val (.int nn), .val (.int (v_rm0_1 p3 p1 p2))] [(.int (own_at y5 (5 : Int32) (p3 &&& (7 : Int32)) nn (v_rm0_0 p1 p2) (jb p4)))])) (st109) ?_
    have hc111 : ¬ ((own_at y5 (5 : Int32) (p3 &&& (7 : Int32)) nn (v_rm0_0 p1 p2) (jb p4)) = (0 : Int32)) := (by rw [ha5]; decide)
    refine go _ (T109.setTop (mkF m 294 #[.val (.int p1), .val (.int p2), .val (.int p3), .val (.int p4), .val (.int (v_rm0_0 p1 p2)), .val (.int (p3 &&& (7 : Int32))), .val (.int (jb p4)), .val (.ref b49), .val (.int nn), .val (.int (v_rm0_1 p3 p1 p2))] [])) (fun t k => XS.ifNo X109.here hx rfl (hb hby at_291) rfl ((if0 _ _).trans (feq hc111).1) k) ?_
    refine go _ (T109.setTop (mkF m 296 #[.val (.int p1), .val (.int p2), .val (.int p3), .val (.int p4), .val (.int (v_rm0_0 p1 p2)), .val (.int (p3 &&& (7 : Int32))), .val (.int (jb p4)), .val (.ref b49), .val (.int nn), .val (.int (v_rm0_1 p3 p1 p2))] [(.ref b49)])) (fun t k => XS.aload X109.here hx rfl (hb hby at_294) rfl rfl k) ?_
    refine go _ (T109.setTop (mkF m 298 #[.val (.int p1), .val (.int p2), .val (.int p3), .val (.int p4), .val (.int (v_rm0_0 p1 p2)), .val (.int (p3 &&& (7 : Int32))), .val (.int (jb p4)), .val (.ref b49), .val (.int nn), .val (.int (v_rm0_1 p3 p1 p2))] [(.int (6 : Int32)), (.ref b49)])) (fun t k => XS.bipush X109.here hx rfl (hb hby at_296) k) ?_
    refine go _ (T109.setTop (mkF m 300 #[.val (.int p1), .val (.int p2), .val (.int p3), .val (.int p4), .val (.int (v_rm0_0 p1 p2)), .val (.int (p3 &&& (7 : Int32))), .val (.int (jb p4)), .val (.ref b49), .val (.int nn), .val (.int (v_rm0_1 p3 p1 p2))] [(.int (p3 &&& (7 : Int32))), (.int (6 : Int32)), (.ref b49)])) (fun t k => XS.iload X109.here hx rfl (hb hby at_298) rfl k) ?_
    refine go _ (T109.setTop (mkF m 302 #[.val (.int p1), .val (.int p2), .val (.int p3), .val (.int p4), .val (.int (v_rm0_0 p1 p2)), .val (.int (p3 &&& (7 : Int32))), .val (.int (jb p4)), .val (.ref b49), .val (.int nn), .val (.int (v_rm0_1 p3 p1 p2))] [(.int nn), (.int (p3 &&& (7 : Int32))), (.int (6 : Int32)), (.ref b49)])) (fun t k => XS.iload X109.here hx rfl (hb hby at_300) rfl k) ?_
    refine go _ (T109.setTop (mkF m 304 #[.val (.int p1), .val (.int p2), .val (.int p3), .val (.int p4), .val (.int (v_rm0_0 p1 p2)), .val (.int (p3 &&& (7 : Int32))), .val (.int (jb p4)), .val (.ref b49), .val (.int nn), .val (.int (v_rm0_1 p3 p1 p2))] [(.int (v_rm0_0 p1 p2)), (.int nn), (.int (p3 &&& (7 : Int32))), (.int (6 : Int32)), (.ref b49)])) (fun t k => XS.iload X109.here hx rfl (hb hby at_302) rfl k) ?_
    refine go _ (T109.setTop (mkF m 306 #[.val (.int p1), .val (.int p2), .val (.int p3), .val (.int p4), .val (.int (v_rm0_0 p1 p2)), .val (.int (p3 &&& (7 : Int32))), .val (.int (jb p4)), .val (.ref b49), .val (.int nn), .val (.int (v_rm0_1 p3 p1 p2))] [(.int (jb p4)), (.int (v_rm0_0 p1 p2)), (.int nn), (.int (p3 &&& (7 : Int32))), (.int (6 : Int32)), (.ref b49)])) (fun t k => XS.iload X109.here hx rfl (hb hby at_304) rfl k) ?_
    obtain ⟨y6, hv6, ha6⟩ := own_atok (jb p4) hj hi hlp hnn 6 (6 : Int32) (by decide) (by decide)
    obtain ⟨_, _, ⟨T112, L112, k112, n112⟩, -, X112, ⟨Lc112, hQ112, l112, y112, z112⟩, st112⟩ := Jvm.LawKit.callS X109 hx (y := (⟨"com/example/keyspace_ledger/keyspaceledger/LengthPrefixWritePinLaw", "at", "([BIIIIB)Z"⟩ : MethodName)) hown (mvT hZ (hw _ (List.mem_of_getElem? (i := 6) rfl))) (mvT hZ (hw _ (List.mem_of_getElem? (i := 7) rfl))) (mvT hZ (hw _ (List.mem_of_getElem? (i := 8) rfl))) (mvT hZ (hw _ (List.mem_of_getElem? (i := 9) rfl))) (by decide) (backOf (W := 0) (rm2 l Z a0 hw [] b49 (6 : Int32) (p3 &&& (7 : Int32)) nn (v_rm0_0 p1 p2) (jb p4) _ 13 6 y6 T90.heap n0 Z92 Aq90 (by decide) (by decide) hv6) hZ (hw _ (List.mem_of_getElem? (i := 9) rfl)) (hw _ (List.mem_of_getElem? (i := 8) rfl)) (by decide) (by decide)) (g := (mkF m 306 #[.val (.int p1), .val (.int p2), .val (.int p3), .val (.int p4), .val (.int (v_rm0_0 p1 p2)), .val (.int (p3 &&& (7 : Int32))), .val (.int (jb p4)), .val (.ref b49), .val (.int nn), .val (.int (v_rm0_1 p3 p1 p2))] [(.int (jb p4)), (.int (v_rm0_0 p1 p2)), (.int nn), (.int (p3 &&& (7 : Int32))), (.int (6 : Int32)), (.ref b49)])) rfl (by rw [hml]; rfl) (argsL := [(.ref b49), (.int (6 : Int32)), (.int (p3 &&& (7 : Int32))), (.int nn), (.int (v_rm0_0 p1 p2)), (.int (jb p4))]) (rest := []) (lenOf pd_2 rfl) rfl (by show 2 * 0 + _ ≤ _; exact Nat.le_of_eq rfl) (hb hby at_306) (fun _ _ => ⟨rfl, hh109, (by decide : 1 + 0 ≤ _), (by decide : 13 + 0 ≤ _)⟩)
    dsimp only [Pt.U, Pt.locs, Pt.cells, Pt.slots] at X112 l112 y112 z112 st112 hQ112
    rw [l112, y112, z112] at X112
    obtain ⟨rfl, Nq112, hh112⟩ := hQ112
    have N113 := Fr.app N110 Nq112
    have X112 : Stand p l e room_1 s m _ below meth c T112 _ 1 13 := X112
    refine go _ (T112.setTop (mkF m 309 #[.val (.int p1), .val (.int p2), .val (.int p3), .val (.int p4), .val (.int (v_rm0_0 p1 p2)), .val (.int (p3 &&& (7 : Int32))), .val (.int (jb p4)), .val (.ref b49), .val (.int nn), .val (.int (v_rm0_1 p3 p1 p2))] [(.int (own_at y6 (6 : Int32) (p3 &&& (7 : Int32)) nn (v_rm0_0 p1 p2) (jb p4)))])) (st112) ?_
    have hc114 : ¬ ((own_at y6 (6 : Int32) (p3 &&& (7 : Int32)) nn (v_rm0_0 p1 p2) (jb p4)) = (0 : Int32)) := (by rw [ha6]; decide)
    refine go _ (T112.setTop (mkF m 312 #[.val (.int p1), .val (.int p2), .val (.int p3), .val (.int p4), .val (.int (v_rm0_0 p1 p2)), .val (.int (p3 &&& (7 : Int32))), .val (.int (jb p4)), .val (.ref b49), .val (.int nn), .val (.int (v_rm0_1 p3 p1 p2))] [])) (fun t k => XS.ifNo X112.here hx rfl (hb hby at_309) rfl ((if0 _ _).trans (feq hc114).1) k) ?_
    refine go _ (T112.setTop (mkF m 314 #[.val (.int p1), .val (.int p2), .val (.int p3), .val (.int p4), .val (.int (v_rm0_0 p1 p2)), .val (.int (p3 &&& (7 : Int32))), .val (.int (jb p4)), .val (.ref b49), .val (.int nn), .val (.int (v_rm0_1 p3 p1 p2))] [(.ref b49)])) (fun t k => XS.aload X112.here hx rfl (hb hby at_312) rfl rfl k) ?_
    refine go _ (T112.setTop (mkF m 316 #[.val (.int p1), .val (.int p2), .val (.int p3), .val (.int p4), .val (.int (v_rm0_0 p1 p2)), .val (.int (p3 &&& (7 : Int32))), .val (.int (jb p4)), .val (.ref b49), .val (.int nn), .val (.int (v_rm0_1 p3 p1 p2))] [(.int (7 : Int32)), (.ref b49)])) (fun t k => XS.bipush X112.here hx rfl (hb hby at_314) k) ?_
    refine go _ (T112.setTop (mkF m 318 #[.val (.int p1), .val (.int p2), .val (.int p3), .val (.int p4), .val (.int (v_rm0_0 p1 p2)), .val (.int (p3 &&& (7 : Int32))), .val (.int (jb p4)), .val (.ref b49), .val (.int nn), .val (.int (v_rm0_1 p3 p1 p2))] [(.int (p3 &&& (7 : Int32))), (.int (7 : Int32)), (.ref b49)])) (fun t k => XS.iload X112.here hx rfl (hb hby at_316) rfl k) ?_
    refine go _ (T112.setTop (mkF m 320 #[.val (.int p1), .val (.int p2), .val (.int p3), .val (.int p4), .val (.int (v_rm0_0 p1 p2)), .val (.int (p3 &&& (7 : Int32))), .val (.int (jb p4)), .val (.ref b49), .val (.int nn), .val (.int (v_rm0_1 p3 p1 p2))] [(.int nn), (.int (p3 &&& (7 : Int32))), (.int (7 : Int32)), (.ref b49)])) (fun t k => XS.iload X112.here hx rfl (hb hby at_318) rfl k) ?_
    refine go _ (T112.setTop (mkF m 322 #[.val (.int p1), .val (.int p2), .val (.int p3), .val (.int p4), .val (.int (v_rm0_0 p1 p2)), .val (.int (p3 &&& (7 : Int32))), .val (.int (jb p4)), .val (.ref b49), .val (.int nn), .val (.int (v_rm0_1 p3 p1 p2))] [(.int (v_rm0_0 p1 p2)), (.int nn), (.int (p3 &&& (7 : Int32))), (.int (7 : Int32)), (.ref b49)])) (fun t k => XS.iload X112.here hx rfl (hb hby at_320) rfl k) ?_
    refine go _ (T112.setTop (mkF m 324 #[.val (.int p1), .val (.int p2), .val (.int p3), .val (.int p4), .val (.int (v_rm0_0 p1 p2)), .val (.int (p3 &&& (7 : Int32))), .val (.int (jb p4)), .val (.ref b49), .val (.int nn), .val (.int (v_rm0_1 p3 p1 p2))] [(.int (jb p4)), (.int (v_rm0_0 p1 p2)), (.int nn), (.int (p3 &&& (7 : Int32))), (.int (7 : Int32)), (.ref b49)])) (fun t k => XS.iload X112.here hx rfl (hb hby at_322) rfl k) ?_
    obtain ⟨y7, hv7, ha7⟩ := own_atok (jb p4) hj hi hlp hnn 7 (7 : Int32) (by decide) (by decide)
    obtain ⟨_, _, ⟨T115, L115, k115, n115⟩, -, X115, ⟨Lc115, hQ115, l115, y115, z115⟩, st115⟩ := Jvm.LawKit.callS X112 hx (y := (⟨"com/example/keyspace_ledger/keyspaceledger/LengthPrefixWritePinLaw", "at", "([BIIIIB)Z"⟩ : MethodName)) hown (mvT hZ (hw _ (List.mem_of_getElem? (i := 6) rfl))) (mvT hZ (hw _ (List.mem_of_getElem? (i := 7) rfl))) (mvT hZ (hw _ (List.mem_of_getElem? (i := 8) rfl))) (mvT hZ (hw _ (List.mem_of_getElem? (i := 9) rfl))) (by decide) (backOf (W := 0) (rm2 l Z a0 hw [] b49 (7 : Int32) (p3 &&& (7 : Int32)) nn (v_rm0_0 p1 p2) (jb p4) _ 13 7 y7 T90.heap n0 Z92 Aq90 (by decide) (by decide) hv7) hZ (hw _ (List.mem_of_getElem? (i := 9) rfl)) (hw _ (List.mem_of_getElem? (i := 8) rfl)) (by decide) (by decide)) (g := (mkF m 324 #[.val (.int p1), .val (.int p2), .val (.int p3), .val (.int p4), .val (.int (v_rm0_0 p1 p2)), .val (.int (p3 &&& (7 : Int32))), .val (.int (jb p4)), .val (.ref b49), .val (.int nn), .val (.int (v_rm0_1 p3 p1 p2))] [(.int (jb p4)), (.int (v_rm0_0 p1 p2)), (.int nn), (.int (p3 &&& (7 : Int32))), (.int (7 : Int32)), (.ref b49)])) rfl (by rw [hml]; rfl) (argsL := [(.ref b49), (.int (7 : Int32)), (.int (p3 &&& (7 : Int32))), (.int nn), (.int (v_rm0_0 p1 p2)), (.int (jb p4))]) (rest := []) (lenOf pd_2 rfl) rfl (by show 2 * 0 + _ ≤ _; exact Nat.le_of_eq rfl) (hb hby at_324) (fun _ _ => ⟨rfl, hh112, (by decide : 1 + 0 ≤ _), (by decide : 13 + 0 ≤ _)⟩)
    dsimp only [Pt.U, Pt.locs, Pt.cells, Pt.slots] at X115 l115 y115 z115 st115 hQ115
    rw [l115, y115, z115] at X115
    obtain ⟨rfl, Nq115, hh115⟩ := hQ115
    have N116 := Fr.app N113 Nq115
    have X115 : Stand p l e room_1 s m _ below meth c T115 _ 1 13 := X115
    refine go _ (T115.setTop (mkF m 327 #[.val (.int p1), .val (.int p2), .val (.int p3), .val (.int p4), .val (.int (v_rm0_0 p1 p2)), .val (.int (p3 &&& (7 : Int32))), .val (.int (jb p4)), .val (.ref b49), .val (.int nn), .val (.int (v_rm0_1 p3 p1 p2))] [(.int (own_at y7 (7 : Int32) (p3 &&& (7 : Int32)) nn (v_rm0_0 p1 p2) (jb p4)))])) (st115) ?_
    have hc117 : ¬ ((own_at y7 (7 : Int32) (p3 &&& (7 : Int32)) nn (v_rm0_0 p1 p2) (jb p4)) = (0 : Int32)) := (by rw [ha7]; decide)
    refine go _ (T115.setTop (mkF m 330 #[.val (.int p1), .val (.int p2), .val (.int p3), .val (.int p4), .val (.int (v_rm0_0 p1 p2)), .val (.int (p3 &&& (7 : Int32))), .val (.int (jb p4)), .val (.ref b49), .val (.int nn), .val (.int (v_rm0_1 p3 p1 p2))] [])) (fun t k => XS.ifNo X115.here hx rfl (hb hby at_327) rfl ((if0 _ _).trans (feq hc117).1) k) ?_
    refine go _ (T115.setTop (mkF m 332 #[.val (.int p1), .val (.int p2), .val (.int p3), .val (.int p4), .val (.int (v_rm0_0 p1 p2)), .val (.int (p3 &&& (7 : Int32))), .val (.int (jb p4)), .val (.ref b49), .val (.int nn), .val (.int (v_rm0_1 p3 p1 p2))] [(.ref b49)])) (fun t k => XS.aload X115.here hx rfl (hb hby at_330) rfl rfl k) ?_
    refine go _ (T115.setTop (mkF m 334 #[.val (.int p1), .val (.int p2), .val (.int p3), .val (.int p4), .val (.int (v_rm0_0 p1 p2)), .val (.int (p3 &&& (7 : Int32))), .val (.int (jb p4)), .val (.ref b49), .val (.int nn), .val (.int (v_rm0_1 p3 p1 p2))] [(.int (8 : Int32)), (.ref b49)])) (fun t k => XS.bipush X115.here hx rfl (hb hby at_332) k) ?_
    refine go _ (T115.setTop (mkF m 336 #[.val (.int p1), .val (.int p2), .val (.int p3), .val (.int p4), .val (.int (v_rm0_0 p1 p2)), .val (.int (p3 &&& (7 : Int32))), .val (.int (jb p4)), .val (.ref b49), .val (.int nn), .val (.int (v_rm0_1 p3 p1 p2))] [(.int (p3 &&& (7 : Int32))), (.int (8 : Int32)), (.ref b49)])) (fun t k => XS.iload X115.here hx rfl (hb hby at_334) rfl k) ?_
    refine go _ (T115.setTop (mkF m 338 #[.val (.int p1), .val (.int p2), .val (.int p3), .val (.int p4), .val (.int (v_rm0_0 p1 p2)), .val (.int (p3 &&& (7 : Int32))), .val (.int (jb p4)), .val (.ref b49), .val (.int nn), .val (.int (v_rm0_1 p3 p1 p2))] [(.int nn), (.int (p3 &&& (7 : Int32))), (.int (8 : Int32)), (.ref b49)])) (fun t k => XS.iload X115.here hx rfl (hb hby at_336) rfl k) ?_
    refine go _ (T115.setTop (mkF m 340 #[.val (.int p1), .val (.int p2), .val (.int p3), .val (.int p4), .val (.int (v_rm0_0 p1 p2)), .val (.int (p3 &&& (7 : Int32))), .val (.int (jb p4)), .val (.ref b49), .val (.int nn), .val (.int (v_rm0_1 p3 p1 p2))] [(.int (v_rm0_0 p1 p2)), (.int nn), (.int (p3 &&& (7 : Int32))), (.int (8 : Int32)), (.ref b49)])) (fun t k => XS.iload X115.here hx rfl (hb hby at_338) rfl k) ?_
    refine go _ (T115.setTop (mkF m 342 #[.val (.int p1), .val (.int p2), .val (.int p3), .val (.int p4), .val (.int (v_rm0_0 p1 p2)), .val (.int (p3 &&& (7 : Int32))), .val (.int (jb p4)), .val (.ref b49), .val (.int nn), .val (.int (v_rm0_1 p3 p1 p2))] [(.int (jb p4)), (.int (v_rm0_0 p1 p2)), (.int nn), (.int (p3 &&& (7 : Int32))), (.int (8 : Int32)), (.ref b49)])) (fun t k => XS.iload X115.here hx rfl (hb hby at_340) rfl k) ?_
    obtain ⟨y8, hv8, ha8⟩ := own_atok (jb p4) hj hi hlp hnn 8 (8 : Int32) (by decide) (by decide)
    obtain ⟨_, _, ⟨T118, L118, k118, n118⟩, -, X118, ⟨Lc118, hQ118, l118, y118, z118⟩, st118⟩ := Jvm.LawKit.callS X115 hx (y := (⟨"com/example/keyspace_ledger/keyspaceledger/LengthPrefixWritePinLaw", "at", "([BIIIIB)Z"⟩ : MethodName)) hown (mvT hZ (hw _ (List.mem_of_getElem? (i := 6) rfl))) (mvT hZ (hw _ (List.mem_of_getElem? (i := 7) rfl))) (mvT hZ (hw _ (List.mem_of_getElem? (i := 8) rfl))) (mvT hZ (hw _ (List.mem_of_getElem? (i := 9) rfl))) (by decide) (backOf (W := 0) (rm2 l Z a0 hw [] b49 (8 : Int32) (p3 &&& (7 : Int32)) nn (v_rm0_0 p1 p2) (jb p4) _ 13 8 y8 T90.heap n0 Z92 Aq90 (by decide) (by decide) hv8) hZ (hw _ (List.mem_of_getElem? (i := 9) rfl)) (hw _ (List.mem_of_getElem? (i := 8) rfl)) (by decide) (by decide)) (g := (mkF m 342 #[.val (.int p1), .val (.int p2), .val (.int p3), .val (.int p4), .val (.int (v_rm0_0 p1 p2)), .val (.int (p3 &&& (7 : Int32))), .val (.int (jb p4)), .val (.ref b49), .val (.int nn), .val (.int (v_rm0_1 p3 p1 p2))] [(.int (jb p4)), (.int (v_rm0_0 p1 p2)), (.int nn), (.int (p3 &&& (7 : Int32))), (.int (8 : Int32)), (.ref b49)])) rfl (by rw [hml]; rfl) (argsL := [(.ref b49), (.int (8 : Int32)), (.int (p3 &&& (7 : Int32))), (.int nn), (.int (v_rm0_0 p1 p2)), (.int (jb p4))]) (rest := []) (lenOf pd_2 rfl) rfl (by show 2 * 0 + _ ≤ _; exact Nat.le_of_eq rfl) (hb hby at_342) (fun _ _ => ⟨rfl, hh115, (by decide : 1 + 0 ≤ _), (by decide : 13 + 0 ≤ _)⟩)
    dsimp only [Pt.U, Pt.locs, Pt.cells, Pt.slots] at X118 l118 y118 z118 st118 hQ118
    rw [l118, y118, z118] at X118
    obtain ⟨rfl, Nq118, hh118⟩ := hQ118
    have N119 := Fr.app N116 Nq118
    have X118 : Stand p l e room_1 s m _ below meth c T118 _ 1 13 := X118
    refine go _ (T118.setTop (mkF m 345 #[.val (.int p1), .val (.int p2), .val (.int p3), .val (.int p4), .val (.int (v_rm0_0 p1 p2)), .val (.int (p3 &&& (7 : Int32))), .val (.int (jb p4)), .val (.ref b49), .val (.int nn), .val (.int (v_rm0_1 p3 p1 p2))] [(.int (own_at y8 (8 : Int32) (p3 &&& (7 : Int32)) nn (v_rm0_0 p1 p2) (jb p4)))])) (st118) ?_
    have hc120 : ¬ ((own_at y8 (8 : Int32) (p3 &&& (7 : Int32)) nn (v_rm0_0 p1 p2) (jb p4)) = (0 : Int32)) := (by rw [ha8]; decide)
    refine go _ (T118.setTop (mkF m 348 #[.val (.int p1), .val (.int p2), .val (.int p3), .val (.int p4), .val (.int (v_rm0_0 p1 p2)), .val (.int (p3 &&& (7 : Int32))), .val (.int (jb p4)), .val (.ref b49), .val (.int nn), .val (.int (v_rm0_1 p3 p1 p2))] [])) (fun t k => XS.ifNo X118.here hx rfl (hb hby at_345) rfl ((if0 _ _).trans (feq hc120).1) k) ?_
    refine go _ (T118.setTop (mkF m 350 #[.val (.int p1), .val (.int p2), .val (.int p3), .val (.int p4), .val (.int (v_rm0_0 p1 p2)), .val (.int (p3 &&& (7 : Int32))), .val (.int (jb p4)), .val (.ref b49), .val (.int nn), .val (.int (v_rm0_1 p3 p1 p2))] [(.ref b49)])) (fun t k => XS.aload X118.here hx rfl (hb hby at_348) rfl rfl k) ?_
    refine go _ (T118.setTop (mkF m 352 #[.val (.int p1), .val (.int p2), .val (.int p3), .val (.int p4), .val (.int (v_rm0_0 p1 p2)), .val (.int (p3 &&& (7 : Int32))), .val (.int (jb p4)), .val (.ref b49), .val (.int nn), .val (.int (v_rm0_1 p3 p1 p2))] [(.int (9 : Int32)), (.ref b49)])) (fun t k => XS.bipush X118.here hx rfl (hb hby at_350) k) ?_
    refine go _ (T118.setTop (mkF m 354 #[.val (.int p1), .val (.int p2), .val (.int p3), .val (.int p4), .val (.int (v_rm0_0 p1 p2)), .val (.int (p3 &&& (7 : Int32))), .val (.int (jb p4)), .val (.ref b49), .val (.int nn), .val (.int (v_rm0_1 p3 p1 p2))] [(.int (p3 &&& (7 : Int32))), (.int (9 : Int32)), (.ref b49)])) (fun t k => XS.iload X118.here hx rfl (hb hby at_352) rfl k) ?_
    refine go _ (T118.setTop (mkF m 356 #[.val (.int p1), .val (.int p2), .val (.int p3), .val (.int p4), .val (.int (v_rm0_0 p1 p2)), .val (.int (p3 &&& (7 : Int32))), .val (.int (jb p4)), .val (.ref b49), .val (.int nn), .val (.int (v_rm0_1 p3 p1 p2))] [(.int nn), (.int (p3 &&& (7 : Int32))), (.int (9 : Int32)), (.ref b49)])) (fun t k => XS.iload X118.here hx rfl (hb hby at_354) rfl k) ?_
    refine go _ (T118.setTop (mkF m 358 #[.val (.int p1), .val (.int p2), .val (.int p3), .val (.int p4), .val (.int (v_rm0_0 p1 p2)), .val (.int (p3 &&& (7 : Int32))), .val (.int (jb p4)), .val (.ref b49), .val (.int nn), .val (.int (v_rm0_1 p3 p1 p2))] [(.int (v_rm0_0 p1 p2)), (.int nn), (.int (p3 &&& (7 : Int32))), (.int (9 : Int32)), (.ref b49)])) (fun t k => XS.iload X118.here hx rfl (hb hby at_356) rfl k) ?_
    refine go _ (T118.setTop (mkF m 360 #[.val (.int p1), .val (.int p2), .val (.int p3), .val (.int p4), .val (.int (v_rm0_0 p1 p2)), .val (.int (p3 &&& (7 : Int32))), .val (.int (jb p4)), .val (.ref b49), .val (.int nn), .val (.int (v_rm0_1 p3 p1 p2))] [(.int (jb p4)), (.int (v_rm0_0 p1 p2)), (.int nn), (.int (p3 &&& (7 : Int32))), (.int (9 : Int32)), (.ref b49)])) (fun t k => XS.iload X118.here hx rfl (hb hby at_358) rfl k) ?_
    obtain ⟨y9, hv9, ha9⟩ := own_atok (jb p4) hj hi hlp hnn 9 (9 : Int32) (by decide) (by decide)
    obtain ⟨_, _, ⟨T121, L121, k121, n121⟩, -, X121, ⟨Lc121, hQ121, l121, y121, z121⟩, st121⟩ := Jvm.LawKit.callS X118 hx (y := (⟨"com/example/keyspace_ledger/keyspaceledger/LengthPrefixWritePinLaw", "at", "([BIIIIB)Z"⟩ : MethodName)) hown (mvT hZ (hw _ (List.mem_of_getElem? (i := 6) rfl))) (mvT hZ (hw _ (List.mem_of_getElem? (i := 7) rfl))) (mvT hZ (hw _ (List.mem_of_getElem? (i := 8) rfl))) (mvT hZ (hw _ (List.mem_of_getElem? (i := 9) rfl))) (by decide) (backOf (W := 0) (rm2 l Z a0 hw [] b49 (9 : Int32) (p3 &&& (7 : Int32)) nn (v_rm0_0 p1 p2) (jb p4) _ 13 9 y9 T90.heap n0 Z92 Aq90 (by decide) (by decide) hv9) hZ (hw _ (List.mem_of_getElem? (i := 9) rfl)) (hw _ (List.mem_of_getElem? (i := 8) rfl)) (by decide) (by decide)) (g := (mkF m 360 #[.val (.int p1), .val (.int p2), .val (.int p3), .val (.int p4), .val (.int (v_rm0_0 p1 p2)), .val (.int (p3 &&& (7 : Int32))), .val (.int (jb p4)), .val (.ref b49), .val (.int nn), .val (.int (v_rm0_1 p3 p1 p2))] [(.int (jb p4)), (.int (v_rm0_0 p1 p2)), (.int nn), (.int (p3 &&& (7 : Int32))), (.int (9 : Int32)), (.ref b49)])) rfl (by rw [hml]; rfl) (argsL := [(.ref b49), (.int (9 : Int32)), (.int (p3 &&& (7 : Int32))), (.int nn), (.int (v_rm0_0 p1 p2)), (.int (jb p4))]) (rest := []) (lenOf pd_2 rfl) rfl (by show 2 * 0 + _ ≤ _; exact Nat.le_of_eq rfl) (hb hby at_360) (fun _ _ => ⟨rfl, hh118, (by decide : 1 + 0 ≤ _), (by decide : 13 + 0 ≤ _)⟩)
    dsimp only [Pt.U, Pt.locs, Pt.cells, Pt.slots] at X121 l121 y121 z121 st121 hQ121
    rw [l121, y121, z121] at X121
    obtain ⟨rfl, Nq121, hh121⟩ := hQ121
    have N122 := Fr.app N119 Nq121
    have X121 : Stand p l e room_1 s m _ below meth c T121 _ 1 13 := X121
    refine go _ (T121.setTop (mkF m 363 #[.val (.int p1), .val (.int p2), .val (.int p3), .val (.int p4), .val (.int (v_rm0_0 p1 p2)), .val (.int (p3 &&& (7 : Int32))), .val (.int (jb p4)), .val (.ref b49), .val (.int nn), .val (.int (v_rm0_1 p3 p1 p2))] [(.int (own_at y9 (9 : Int32) (p3 &&& (7 : Int32)) nn (v_rm0_0 p1 p2) (jb p4)))])) (st121) ?_
    have hc123 : ¬ ((own_at y9 (9 : Int32) (p3 &&& (7 : Int32)) nn (v_rm0_0 p1 p2) (jb p4)) = (0 : Int32)) := (by rw [ha9]; decide)
    refine go _ (T121.setTop (mkF m 366 #[.val (.int p1), .val (.int p2), .val (.int p3), .val (.int p4), .val (.int (v_rm0_0 p1 p2)), .val (.int (p3 &&& (7 : Int32))), .val (.int (jb p4)), .val (.ref b49), .val (.int nn), .val (.int (v_rm0_1 p3 p1 p2))] [])) (fun t k => XS.ifNo X121.here hx rfl (hb hby at_363) rfl ((if0 _ _).trans (feq hc123).1) k) ?_
    refine go _ (T121.setTop (mkF m 368 #[.val (.int p1), .val (.int p2), .val (.int p3), .val (.int p4), .val (.int (v_rm0_0 p1 p2)), .val (.int (p3 &&& (7 : Int32))), .val (.int (jb p4)), .val (.ref b49), .val (.int nn), .val (.int (v_rm0_1 p3 p1 p2))] [(.ref b49)])) (fun t k => XS.aload X121.here hx rfl (hb hby at_366) rfl rfl k) ?_
    refine go _ (T121.setTop (mkF m 370 #[.val (.int p1), .val (.int p2), .val (.int p3), .val (.int p4), .val (.int (v_rm0_0 p1 p2)), .val (.int (p3 &&& (7 : Int32))), .val (.int (jb p4)), .val (.ref b49), .val (.int nn), .val (.int (v_rm0_1 p3 p1 p2))] [(.int (10 : Int32)), (.ref b49)])) (fun t k => XS.bipush X121.here hx rfl (hb hby at_368) k) ?_
    refine go _ (T121.setTop (mkF m 372 #[.val (.int p1), .val (.int p2), .val (.int p3), .val (.int p4), .val (.int (v_rm0_0 p1 p2)), .val (.int (p3 &&& (7 : Int32))), .val (.int (jb p4)), .val (.ref b49), .val (.int nn), .val (.int (v_rm0_1 p3 p1 p2))] [(.int (p3 &&& (7 : Int32))), (.int (10 : Int32)), (.ref b49)])) (fun t k => XS.iload X121.here hx rfl (hb hby at_370) rfl k) ?_
    refine go _ (T121.setTop (mkF m 374 #[.val (.int p1), .val (.int p2), .val (.int p3), .val (.int p4), .val (.int (v_rm0_0 p1 p2)), .val (.int (p3 &&& (7 : Int32))), .val (.int (jb p4)), .val (.ref b49), .val (.int nn), .val (.int (v_rm0_1 p3 p1 p2))] [(.int nn), (.int (p3 &&& (7 : Int32))), (.int (10 : Int32)), (.ref b49)])) (fun t k => XS.iload X121.here hx rfl (hb hby at_372) rfl k) ?_
    refine go _ (T121.setTop (mkF m 376 #[.val (.int p1), .val (.int p2), .val (.int p3), .val (.int p4), .val (.int (v_rm0_0 p1 p2)), .val (.int (p3 &&& (7 : Int32))), .val (.int (jb p4)), .val (.ref b49), .val (.int nn), .val (.int (v_rm0_1 p3 p1 p2))] [(.int (v_rm0_0 p1 p2)), (.int nn), (.int (p3 &&& (7 : Int32))), (.int (10 : Int32)), (.ref b49)])) (fun t k => XS.iload X121.here hx rfl (hb hby at_374) rfl k) ?_
    refine go _ (T121.setTop (mkF m 378 #[.val (.int p1), .val (.int p2), .val (.int p3), .val (.int p4), .val (.int (v_rm0_0 p1 p2)), .val (.int (p3 &&& (7 : Int32))), .val (.int (jb p4)), .val (.ref b49), .val (.int nn), .val (.int (v_rm0_1 p3 p1 p2))] [(.int (jb p4)), (.int (v_rm0_0 p1 p2)), (.int nn), (.int (p3 &&& (7 : Int32))), (.int (10 : Int32)), (.ref b49)])) (fun t k => XS.iload X121.here hx rfl (hb hby at_376) rfl k) ?_
    obtain ⟨y10, hv10, ha10⟩ := own_atok (jb p4) hj hi hlp hnn 10 (10 : Int32) (by decide) (by decide)
    obtain ⟨_, _, ⟨T124, L124, k124, n124⟩, -, X124, ⟨Lc124, hQ124, l124, y124, z124⟩, st124⟩ := Jvm.LawKit.callS X121 hx (y := (⟨"com/example/keyspace_ledger/keyspaceledger/LengthPrefixWritePinLaw", "at", "([BIIIIB)Z"⟩ : MethodName)) hown (mvT hZ (hw _ (List.mem_of_getElem? (i := 6) rfl))) (mvT hZ (hw _ (List.mem_of_getElem? (i := 7) rfl))) (mvT hZ (hw _ (List.mem_of_getElem? (i := 8) rfl))) (mvT hZ (hw _ (List.mem_of_getElem? (i := 9) rfl))) (by decide) (backOf (W := 0) (rm2 l Z a0 hw [] b49 (10 : Int32) (p3 &&& (7 : Int32)) nn (v_rm0_0 p1 p2) (jb p4) _ 13 10 y10 T90.heap n0 Z92 Aq90 (by decide) (by decide) hv10) hZ (hw _ (List.mem_of_getElem? (i := 9) rfl)) (hw _ (List.mem_of_getElem? (i := 8) rfl)) (by decide) (by decide)) (g := (mkF m 378 #[.val (.int p1), .val (.int p2), .val (.int p3), .val (.int p4), .val (.int (v_rm0_0 p1 p2)), .val (.int (p3 &&& (7 : Int32))), .val (.int (jb p4)), .val (.ref b49), .val (.int nn), .val (.int (v_rm0_1 p3 p1 p2))] [(.int (jb p4)), (.int (v_rm0_0 p1 p2)), (.int nn), (.int (p3 &&& (7 : Int32))), (.int (10 : Int32)), (.ref b49)])) rfl (by rw [hml]; rfl) (argsL := [(.ref b49), (.int (10 : Int32)), (.int (p3 &&& (7 : Int32))), (.int nn), (.int (v_rm0_0 p1 p2)), (.int (jb p4))]) (rest := []) (lenOf pd_2 rfl) rfl (by show 2 * 0 + _ ≤ _; exact Nat.le_of_eq rfl) (hb hby at_378) (fun _ _ => ⟨rfl, hh121, (by decide : 1 + 0 ≤ _), (by decide : 13 + 0 ≤ _)⟩)
    dsimp only [Pt.U, Pt.locs, Pt.cells, Pt.slots] at X124 l124 y124 z124 st124 hQ124
    rw [l124, y124, z124] at X124
    obtain ⟨rfl, Nq124, hh124⟩ := hQ124
    have N125 := Fr.app N122 Nq124
    have X124 : Stand p l e room_1 s m _ below meth c T124 _ 1 13 := X124
    refine go _ (T124.setTop (mkF m 381 #[.val (.int p1), .val (.int p2), .val (.int p3), .val (.int p4), .val (.int (v_rm0_0 p1 p2)), .val (.int (p3 &&& (7 : Int32))), .val (.int (jb p4)), .val (.ref b49), .val (.int nn), .val (.int (v_rm0_1 p3 p1 p2))] [(.int (own_at y10 (10 : Int32) (p3 &&& (7 : Int32)) nn (v_rm0_0 p1 p2) (jb p4)))])) (st124) ?_
    have hc126 : ¬ ((own_at y10 (10 : Int32) (p3 &&& (7 : Int32)) nn (v_rm0_0 p1 p2) (jb p4)) = (0 : Int32)) := (by rw [ha10]; decide)
    refine go _ (T124.setTop (mkF m 384 #[.val (.int p1), .val (.int p2), .val (.int p3), .val (.int p4), .val (.int (v_rm0_0 p1 p2)), .val (.int (p3 &&& (7 : Int32))), .val (.int (jb p4)), .val (.ref b49), .val (.int nn), .val (.int (v_rm0_1 p3 p1 p2))] [])) (fun t k => XS.ifNo X124.here hx rfl (hb hby at_381) rfl ((if0 _ _).trans (feq hc126).1) k) ?_
    refine go _ (T124.setTop (mkF m 386 #[.val (.int p1), .val (.int p2), .val (.int p3), .val (.int p4), .val (.int (v_rm0_0 p1 p2)), .val (.int (p3 &&& (7 : Int32))), .val (.int (jb p4)), .val (.ref b49), .val (.int nn), .val (.int (v_rm0_1 p3 p1 p2))] [(.ref b49)])) (fun t k => XS.aload X124.here hx rfl (hb hby at_384) rfl rfl k) ?_
    refine go _ (T124.setTop (mkF m 388 #[.val (.int p1), .val (.int p2), .val (.int p3), .val (.int p4), .val (.int (v_rm0_0 p1 p2)), .val (.int (p3 &&& (7 : Int32))), .val (.int (jb p4)), .val (.ref b49), .val (.int nn), .val (.int (v_rm0_1 p3 p1 p2))] [(.int (11 : Int32)), (.ref b49)])) (fun t k => XS.bipush X124.here hx rfl (hb hby at_386) k) ?_
    refine go _ (T124.setTop (mkF m 390 #[.val (.int p1), .val (.int p2), .val (.int p3), .val (.int p4), .val (.int (v_rm0_0 p1 p2)), .val (.int (p3 &&& (7 : Int32))), .val (.int (jb p4)), .val (.ref b49), .val (.int nn), .val (.int (v_rm0_1 p3 p1 p2))] [(.int (p3 &&& (7 : Int32))), (.int (11 : Int32)), (.ref b49)])) (fun t k => XS.iload X124.here hx rfl (hb hby at_388) rfl k) ?_
    refine go _ (T124.setTop (mkF m 392 #[.val (.int p1), .val (.int p2), .val (.int p3), .val (.int p4), .val (.int (v_rm0_0 p1 p2)), .val (.int (p3 &&& (7 : Int32))), .val (.int (jb p4)), .val (.ref b49), .val (.int nn), .val (.int (v_rm0_1 p3 p1 p2))] [(.int nn), (.int (p3 &&& (7 : Int32))), (.int (11 : Int32)), (.ref b49)])) (fun t k => XS.iload X124.here hx rfl (hb hby at_390) rfl k) ?_
    refine go _ (T124.setTop (mkF m 394 #[.val (.int p1), .val (.int p2), .val (.int p3), .val (.int p4), .val (.int (v_rm0_0 p1 p2)), .val (.int (p3 &&& (7 : Int32))), .val (.int (jb p4)), .val (.ref b49), .val (.int nn), .val (.int (v_rm0_1 p3 p1 p2))] [(.int (v_rm0_0 p1 p2)), (.int nn), (.int (p3 &&& (7 : Int32))), (.int (11 : Int32)), (.ref b49)])) (fun t k => XS.iload X124.here hx rfl (hb hby at_392) rfl k) ?_
    refine go _ (T124.setTop (mkF m 396 #[.val (.int p1), .val (.int p2), .val (.int p3), .val (.int p4), .val (.int (v_rm0_0 p1 p2)), .val (.int (p3 &&& (7 : Int32))), .val (.int (jb p4)), .val (.ref b49), .val (.int nn), .val (.int (v_rm0_1 p3 p1 p2))] [(.int (jb p4)), (.int (v_rm0_0 p1 p2)), (.int nn), (.int (p3 &&& (7 : Int32))), (.int (11 : Int32)), (.ref b49)])) (fun t k => XS.iload X124.here hx rfl (hb hby at_394) rfl k) ?_
    obtain ⟨y11, hv11, ha11⟩ := own_atok (jb p4) hj hi hlp hnn 11 (11 : Int32) (by decide) (by decide)
    obtain ⟨_, _, ⟨T127, L127, k127, n127⟩, -, X127, ⟨Lc127, hQ127, l127, y127, z127⟩, st127⟩ := Jvm.LawKit.callS X124 hx (y := (⟨"com/example/keyspace_ledger/keyspaceledger/LengthPrefixWritePinLaw", "at", "([BIIIIB)Z"⟩ : MethodName)) hown (mvT hZ (hw _ (List.mem_of_getElem? (i := 6) rfl))) (mvT hZ (hw _ (List.mem_of_getElem? (i := 7) rfl))) (mvT hZ (hw _ (List.mem_of_getElem? (i := 8) rfl))) (mvT hZ (hw _ (List.mem_of_getElem? (i := 9) rfl))) (by decide) (backOf (W := 0) (rm2 l Z a0 hw [] b49 (11 : Int32) (p3 &&& (7 : Int32)) nn (v_rm0_0 p1 p2) (jb p4) _ 13 11 y11 T90.heap n0 Z92 Aq90 (by decide) (by decide) hv11) hZ (hw _ (List.mem_of_getElem? (i := 9) rfl)) (hw _ (List.mem_of_getElem? (i := 8) rfl)) (by decide) (by decide)) (g := (mkF m 396 #[.val (.int p1), .val (.int p2), .val (.int p3), .val (.int p4), .val (.int (v_rm0_0 p1 p2)), .val (.int (p3 &&& (7 : Int32))), .val (.int (jb p4)), .val (.ref b49), .val (.int nn), .val (.int (v_rm0_1 p3 p1 p2))] [(.int (jb p4)), (.int (v_rm0_0 p1 p2)), (.int nn), (.int (p3 &&& (7 : Int32))), (.int (11 : Int32)), (.ref b49)])) rfl (by rw [hml]; rfl) (argsL := [(.ref b49), (.int (11 : Int32)), (.int (p3 &&& (7 : Int32))), (.int nn), (.int (v_rm0_0 p1 p2)), (.int (jb p4))]) (rest := []) (lenOf pd_2 rfl) rfl (by show 2 * 0 + _ ≤ _; exact Nat.le_of_eq rfl) (hb hby at_396) (fun _ _ => ⟨rfl, hh124, (by decide : 1 + 0 ≤ _), (by decide : 13 + 0 ≤ _)⟩)
    dsimp only [Pt.U, Pt.locs, Pt.cells, Pt.slots] at X127 l127 y127 z127 st127 hQ127
    rw [l127, y127, z127] at X127
    obtain ⟨rfl, Nq127, hh127⟩ := hQ127
    have N128 := Fr.app N125 Nq127
    have X127 : Stand p l e room_1 s m _ below meth c T127 _ 1 13 := X127
    refine go _ (T127.setTop (mkF m 399 #[.val (.int p1), .val (.int p2), .val (.int p3), .val (.int p4), .val (.int (v_rm0_0 p1 p2)), .val (.int (p3 &&& (7 : Int32))), .val (.int (jb p4)), .val (.ref b49), .val (.int nn), .val (.int (v_rm0_1 p3 p1 p2))] [(.int (own_at y11 (11 : Int32) (p3 &&& (7 : Int32)) nn (v_rm0_0 p1 p2) (jb p4)))])) (st127) ?_
    have hc129 : ¬ ((own_at y11 (11 : Int32) (p3 &&& (7 : Int32)) nn (v_rm0_0 p1 p2) (jb p4)) = (0 : Int32)) := (by rw [ha11]; decide)
    refine go _ (T127.setTop (mkF m 402 #[.val (.int p1), .val (.int p2), .val (.int p3), .val (.int p4), .val (.int (v_rm0_0 p1 p2)), .val (.int (p3 &&& (7 : Int32))), .val (.int (jb p4)), .val (.ref b49), .val (.int nn), .val (.int (v_rm0_1 p3 p1 p2))] [])) (fun t k => XS.ifNo X127.here hx rfl (hb hby at_399) rfl ((if0 _ _).trans (feq hc129).1) k) ?_
    refine go _ (T127.setTop (mkF m 404 #[.val (.int p1), .val (.int p2), .val (.int p3), .val (.int p4), .val (.int (v_rm0_0 p1 p2)), .val (.int (p3 &&& (7 : Int32))), .val (.int (jb p4)), .val (.ref b49), .val (.int nn), .val (.int (v_rm0_1 p3 p1 p2))] [(.ref b49)])) (fun t k => XS.aload X127.here hx rfl (hb hby at_402) rfl rfl k) ?_
    refine go _ (T127.setTop (mkF m 406 #[.val (.int p1), .val (.int p2), .val (.int p3), .val (.int p4), .val (.int (v_rm0_0 p1 p2)), .val (.int (p3 &&& (7 : Int32))), .val (.int (jb p4)), .val (.ref b49), .val (.int nn), .val (.int (v_rm0_1 p3 p1 p2))] [(.int (12 : Int32)), (.ref b49)])) (fun t k => XS.bipush X127.here hx rfl (hb hby at_404) k) ?_
    refine go _ (T127.setTop (mkF m 408 #[.val (.int p1), .val (.int p2), .val (.int p3), .val (.int p4), .val (.int (v_rm0_0 p1 p2)), .val (.int (p3 &&& (7 : Int32))), .val (.int (jb p4)), .val (.ref b49), .val (.int nn), .val (.int (v_rm0_1 p3 p1 p2))] [(.int (p3 &&& (7 : Int32))), (.int (12 : Int32)), (.ref b49)])) (fun t k => XS.iload X127.here hx rfl (hb hby at_406) rfl k) ?_
    refine go _ (T127.setTop (mkF m 410 #[.val (.int p1), .val (.int p2), .val (.int p3), .val (.int p4), .val (.int (v_rm0_0 p1 p2)), .val (.int (p3 &&& (7 : Int32))), .val (.int (jb p4)), .val (.ref b49), .val (.int nn), .val (.int (v_rm0_1 p3 p1 p2))] [(.int nn), (.int (p3 &&& (7 : Int32))), (.int (12 : Int32)), (.ref b49)])) (fun t k => XS.iload X127.here hx rfl (hb hby at_408) rfl k) ?_
    refine go _ (T127.setTop (mkF m 412 #[.val (.int p1), .val (.int p2), .val (.int p3), .val (.int p4), .val (.int (v_rm0_0 p1 p2)), .val (.int (p3 &&& (7 : Int32))), .val (.int (jb p4)), .val (.ref b49), .val (.int nn), .val (.int (v_rm0_1 p3 p1 p2))] [(.int (v_rm0_0 p1 p2)), (.int nn), (.int (p3 &&& (7 : Int32))), (.int (12 : Int32)), (.ref b49)])) (fun t k => XS.iload X127.here hx rfl (hb hby at_410) rfl k) ?_
    refine go _ (T127.setTop (mkF m 414 #[.val (.int p1), .val (.int p2), .val (.int p3), .val (.int p4), .val (.int (v_rm0_0 p1 p2)), .val (.int (p3 &&& (7 : Int32))), .val (.int (jb p4)), .val (.ref b49), .val (.int nn), .val (.int (v_rm0_1 p3 p1 p2))] [(.int (jb p4)), (.int (v_rm0_0 p1 p2)), (.int nn), (.int (p3 &&& (7 : Int32))), (.int (12 : Int32)), (.ref b49)])) (fun t k => XS.iload X127.here hx rfl (hb hby at_412) rfl k) ?_
    obtain ⟨y12, hv12, ha12⟩ := own_atok (jb p4) hj hi hlp hnn 12 (12 : Int32) (by decide) (by decide)
    obtain ⟨_, _, ⟨T130, L130, k130, n130⟩, -, X130, ⟨Lc130, hQ130, l130, y130, z130⟩, st130⟩ := Jvm.LawKit.callS X127 hx (y := (⟨"com/example/keyspace_ledger/keyspaceledger/LengthPrefixWritePinLaw", "at", "([BIIIIB)Z"⟩ : MethodName)) hown (mvT hZ (hw _ (List.mem_of_getElem? (i := 6) rfl))) (mvT hZ (hw _ (List.mem_of_getElem? (i := 7) rfl))) (mvT hZ (hw _ (List.mem_of_getElem? (i := 8) rfl))) (mvT hZ (hw _ (List.mem_of_getElem? (i := 9) rfl))) (by decide) (backOf (W := 0) (rm2 l Z a0 hw [] b49 (12 : Int32) (p3 &&& (7 : Int32)) nn (v_rm0_0 p1 p2) (jb p4) _ 13 12 y12 T90.heap n0 Z92 Aq90 (by decide) (by decide) hv12) hZ (hw _ (List.mem_of_getElem? (i := 9) rfl)) (hw _ (List.mem_of_getElem? (i := 8) rfl)) (by decide) (by decide)) (g := (mkF m 414 #[.val (.int p1), .val (.int p2), .val (.int p3), .val (.int p4), .val (.int (v_rm0_0 p1 p2)), .val (.int (p3 &&& (7 : Int32))), .val (.int (jb p4)), .val (.ref b49), .val (.int nn), .val (.int (v_rm0_1 p3 p1 p2))] [(.int (jb p4)), (.int (v_rm0_0 p1 p2)), (.int nn), (.int (p3 &&& (7 : Int32))), (.int (12 : Int32)), (.ref b49)])) rfl (by rw [hml]; rfl) (argsL := [(.ref b49), (.int (12 : Int32)), (.int (p3 &&& (7 : Int32))), (.int nn), (.int (v_rm0_0 p1 p2)), (.int (jb p4))]) (rest := []) (lenOf pd_2 rfl) rfl (by show 2 * 0 + _ ≤ _; exact Nat.le_of_eq rfl) (hb hby at_414) (fun _ _ => ⟨rfl, hh127, (by decide : 1 + 0 ≤ _), (by decide : 13 + 0 ≤ _)⟩)
    dsimp only [Pt.U, Pt.locs, Pt.cells, Pt.slots] at X130 l130 y130 z130 st130 hQ130
    rw [l130, y130, z130] at X130
    obtain ⟨rfl, Nq130, hh130⟩ := hQ130
    have N131 := Fr.app N128 Nq130
    have X130 : Stand p l e room_1 s m _ below meth c T130 _ 1 13 := X130
    refine go _ (T130.setTop (mkF m 417 #[.val (.int p1), .val (.int p2), .val (.int p3), .val (.int p4), .val (.int (v_rm0_0 p1 p2)), .val (.int (p3 &&& (7 : Int32))), .val (.int (jb p4)), .val (.ref b49), .val (.int nn), .val (.int (v_rm0_1 p3 p1 p2))] [(.int (own_at y12 (12 : Int32) (p3 &&& (7 : Int32)) nn (v_rm0_0 p1 p2) (jb p4)))])) (st130) ?_
    have hc132 : ¬ ((own_at y12 (12 : Int32) (p3 &&& (7 : Int32)) nn (v_rm0_0 p1 p2) (jb p4)) = (0 : Int32)) := (by rw [ha12]; decide)
    refine go _ (T130.setTop (mkF m 420 #[.val (.int p1), .val (.int p2), .val (.int p3), .val (.int p4), .val (.int (v_rm0_0 p1 p2)), .val (.int (p3 &&& (7 : Int32))), .val (.int (jb p4)), .val (.ref b49), .val (.int nn), .val (.int (v_rm0_1 p3 p1 p2))] [])) (fun t k => XS.ifNo X130.here hx rfl (hb hby at_417) rfl ((if0 _ _).trans (feq hc132).1) k) ?_
    refine go _ (T130.setTop (mkF m 421 #[.val (.int p1), .val (.int p2), .val (.int p3), .val (.int p4), .val (.int (v_rm0_0 p1 p2)), .val (.int (p3 &&& (7 : Int32))), .val (.int (jb p4)), .val (.ref b49), .val (.int nn), .val (.int (v_rm0_1 p3 p1 p2))] [(.int (1 : Int32))])) (fun t k => XS.iconst X130.here hx rfl (hb hby at_420) k) ?_
    refine go _ (T130.setTop (mkF m 425 #[.val (.int p1), .val (.int p2), .val (.int p3), .val (.int p4), .val (.int (v_rm0_0 p1 p2)), .val (.int (p3 &&& (7 : Int32))), .val (.int (jb p4)), .val (.ref b49), .val (.int nn), .val (.int (v_rm0_1 p3 p1 p2))] [(.int (1 : Int32))])) (fun t k => XS.goto X130.here hx rfl (pc0 := 421) (pc' := 425) rfl (hb hby at_421) (by decide) (by decide) k) ?_
    exact fin (some (.int (1 : Int32))) X130 (by decide) (by decide) (fun q => by cases q) (show Q_rm0 Z p1 p2 p3 p4 h0 n0 _ T130.heap _ from (by rw [hh130]; exact ⟨rfl, N131⟩)) (fun fs hr => retN X130 hx (t := .boolean) hret (by simp) (hb hby at_425) hr)
  refine go _ (T87.setTop (mkF m 114 #[.val (.int p1), .val (.int p2), .val (.int p3), .val (.int p4), .val (.int (v_rm0_0 p1 p2)), .val (.int (p3 &&& (7 : Int32))), .val (.int (jb p4)), .val (.ref b49), .unset, .unset] [(.int (v_rm0_0 p1 p2))])) (fun t k => XS.iload X87.here hx rfl (hb hby at_112) rfl k) ?_
  refine go _ (T87.setTop (mkF m 117 #[.val (.int p1), .val (.int p2), .val (.int p3), .val (.int p4), .val (.int (v_rm0_0 p1 p2)), .val (.int (p3 &&& (7 : Int32))), .val (.int (jb p4)), .val (.ref b49), .unset, .unset] [(.int (128 : Int32)), (.int (v_rm0_0 p1 p2))])) (fun t k => XS.sipush X87.here hx rfl (hb hby at_114) k) ?_
  by_cases hc133 : (v_rm0_0 p1 p2) < (128 : Int32)
  · refine go _ (T87.setTop (mkF m 120 #[.val (.int p1), .val (.int p2), .val (.int p3), .val (.int p4), .val (.int (v_rm0_0 p1 p2)), .val (.int (p3 &&& (7 : Int32))), .val (.int (jb p4)), .val (.ref b49), .unset, .unset] [])) (fun t k => XS.icmpNo X87.here hx rfl (hb hby at_117) rfl (tlt hc133).2.1 k) ?_
    refine go _ (T87.setTop (mkF m 121 #[.val (.int p1), .val (.int p2), .val (.int p3), .val (.int p4), .val (.int (v_rm0_0 p1 p2)), .val (.int (p3 &&& (7 : Int32))), .val (.int (jb p4)), .val (.ref b49), .unset, .unset] [(.int (1 : Int32))])) (fun t k => XS.iconst X87.here hx rfl (hb hby at_120) k) ?_
    refine go _ (T87.setTop (mkF m 123 #[.val (.int p1), .val (.int p2), .val (.int p3), .val (.int p4), .val (.int (v_rm0_0 p1 p2)), .val (.int (p3 &&& (7 : Int32))), .val (.int (jb p4)), .val (.ref b49), .val (.int (1 : Int32)), .unset] [])) (fun t k => XS.istore X87.here hx rfl (hb hby at_121) rfl (l' := #[.val (.int p1), .val (.int p2), .val (.int p3), .val (.int p4), .val (.int (v_rm0_0 p1 p2)), .val (.int (p3 &&& (7 : Int32))), .val (.int (jb p4)), .val (.ref b49), .val (.int (1 : Int32)), .unset]) rfl k) ?_
    refine go _ (T87.setTop (mkF m 169 #[.val (.int p1), .val (.int p2), .val (.int p3), .val (.int p4), .val (.int (v_rm0_0 p1 p2)), .val (.int (p3 &&& (7 : Int32))), .val (.int (jb p4)), .val (.ref b49), .val (.int (1 : Int32)), .unset] [])) (fun t k => XS.goto X87.here hx rfl (pc0 := 123) (pc' := 169) rfl (hb hby at_123) (by decide) (by decide) k) ?_
    exact tail _ (by unfold own_cnt; rw [if_pos hc133])
  · refine go _ (T87.setTop (mkF m 126 #[.val (.int p1), .val (.int p2), .val (.int p3), .val (.int p4), .val (.int (v_rm0_0 p1 p2)), .val (.int (p3 &&& (7 : Int32))), .val (.int (jb p4)), .val (.ref b49), .unset, .unset] [])) (fun t k => XS.icmpYes X87.here hx rfl (pc0 := 117) (pc' := 126) rfl (hb hby at_117) rfl (flt hc133).2.1 (by decide) (by decide) k) ?_
    refine go _ (T87.setTop (mkF m 128 #[.val (.int p1), .val (.int p2), .val (.int p3), .val (.int p4), .val (.int (v_rm0_0 p1 p2)), .val (.int (p3 &&& (7 : Int32))), .val (.int (jb p4)), .val (.ref b49), .unset, .unset] [(.int (v_rm0_0 p1 p2))])) (fun t k => XS.iload X87.here hx rfl (hb hby at_126) rfl k) ?_
    refine go _ (T87.setTop (mkF m 131 #[.val (.int p1), .val (.int p2), .val (.int p3), .val (.int p4), .val (.int (v_rm0_0 p1 p2)), .val (.int (p3 &&& (7 : Int32))), .val (.int (jb p4)), .val (.ref b49), .unset, .unset] [(.int (16384 : Int32)), (.int (v_rm0_0 p1 p2))])) (fun t k => XS.sipush X87.here hx rfl (hb hby at_128) k) ?_
    by_cases hc134 : (v_rm0_0 p1 p2) < (16384 : Int32)
    · refine go _ (T87.setTop (mkF m 134 #[.val (.int p1), .val (.int p2), .val (.int p3), .val (.int p4), .val (.int (v_rm0_0 p1 p2)), .val (.int (p3 &&& (7 : Int32))), .val (.int (jb p4)), .val (.ref b49), .unset, .unset] [])) (fun t k => XS.icmpNo X87.here hx rfl (hb hby at_131) rfl (tlt hc134).2.1 k) ?_
      refine go _ (T87.setTop (mkF m 135 #[.val (.int p1), .val (.int p2), .val (.int p3), .val (.int p4), .val (.int (v_rm0_0 p1 p2)), .val (.int (p3 &&& (7 : Int32))), .val (.int (jb p4)), .val (.ref b49), .unset, .unset] [(.int (2 : Int32))])) (fun t k => XS.iconst X87.here hx rfl (hb hby at_134) k) ?_
      refine go _ (T87.setTop (mkF m 137 #[.val (.int p1), .val (.int p2), .val (.int p3), .val (.int p4), .val (.int (v_rm0_0 p1 p2)), .val (.int (p3 &&& (7 : Int32))), .val (.int (jb p4)), .val (.ref b49), .val (.int (2 : Int32)), .unset] [])) (fun t k => XS.istore X87.here hx rfl (hb hby at_135) rfl (l' := #[.val (.int p1), .val (.int p2), .val (.int p3), .val (.int p4), .val (.int (v_rm0_0 p1 p2)), .val (.int (p3 &&& (7 : Int32))), .val (.int (jb p4)), .val (.ref b49), .val (.int (2 : Int32)), .unset]) rfl k) ?_
      refine go _ (T87.setTop (mkF m 169 #[.val (.int p1), .val (.int p2), .val (.int p3), .val (.int p4), .val (.int (v_rm0_0 p1 p2)), .val (.int (p3 &&& (7 : Int32))), .val (.int (jb p4)), .val (.ref b49), .val (.int (2 : Int32)), .unset] [])) (fun t k => XS.goto X87.here hx rfl (pc0 := 137) (pc' := 169) rfl (hb hby at_137) (by decide) (by decide) k) ?_
      exact tail _ (by unfold own_cnt; rw [if_neg hc133, if_pos hc134])
    · refine go _ (T87.setTop (mkF m 140 #[.val (.int p1), .val (.int p2), .val (.int p3), .val (.int p4), .val (.int (v_rm0_0 p1 p2)), .val (.int (p3 &&& (7 : Int32))), .val (.int (jb p4)), .val (.ref b49), .unset, .unset] [])) (fun t k => XS.icmpYes X87.here hx rfl (pc0 := 131) (pc' := 140) rfl (hb hby at_131) rfl (flt hc134).2.1 (by decide) (by decide) k) ?_
      refine go _ (T87.setTop (mkF m 142 #[.val (.int p1), .val (.int p2), .val (.int p3), .val (.int p4), .val (.int (v_rm0_0 p1 p2)), .val (.int (p3 &&& (7 : Int32))), .val (.int (jb p4)), .val (.ref b49), .unset, .unset] [(.int (v_rm0_0 p1 p2))])) (fun t k => XS.iload X87.here hx rfl (hb hby at_140) rfl k) ?_
      refine go _ (T87.setTop (mkF m 144 #[.val (.int p1), .val (.int p2), .val (.int p3), .val (.int p4), .val (.int (v_rm0_0 p1 p2)), .val (.int (p3 &&& (7 : Int32))), .val (.int (jb p4)), .val (.ref b49), .unset, .unset] [(.int (2097152 : Int32)), (.int (v_rm0_0 p1 p2))])) (X87.ldcInt hx hown (mvT hZ (hw _ (List.mem_of_getElem? (i := 10) rfl))) (g := (mkF m 142 #[.val (.int p1), .val (.int p2), .val (.int p3), .val (.int p4), .val (.int (v_rm0_0 p1 p2)), .val (.int (p3 &&& (7 : Int32))), .val (.int (jb p4)), .val (.ref b49), .unset, .unset] [(.int (v_rm0_0 p1 p2))])) rfl (hb hby at_142)) ?_
      by_cases hc135 : (v_rm0_0 p1 p2) < (2097152 : Int32)
      · refine go _ (T87.setTop (mkF m 147 #[.val (.int p1), .val (.int p2), .val (.int p3), .val (.int p4), .val (.int (v_rm0_0 p1 p2)), .val (.int (p3 &&& (7 : Int32))), .val (.int (jb p4)), .val (.ref b49), .unset, .unset] [])) (fun t k => XS.icmpNo X87.here hx rfl (hb hby at_144) rfl (tlt hc135).2.1 k) ?_
        refine go _ (T87.setTop (mkF m 148 #[.val (.int p1), .val (.int p2), .val (.int p3), .val (.int p4), .val (.int (v_rm0_0 p1 p2)), .val (.int (p3 &&& (7 : Int32))), .val (.int (jb p4)), .val (.ref b49), .unset, .unset] [(.int (3 : Int32))])) (fun t k => XS.iconst X87.here hx rfl (hb hby at_147) k) ?_
        refine go _ (T87.setTop (mkF m 150 #[.val (.int p1), .val (.int p2), .val (.int p3), .val (.int p4), .val (.int (v_rm0_0 p1 p2)), .val (.int (p3 &&& (7 : Int32))), .val (.int (jb p4)), .val (.ref b49), .val (.int (3 : Int32)), .unset] [])) (fun t k => XS.istore X87.here hx rfl (hb hby at_148) rfl (l' := #[.val (.int p1), .val (.int p2), .val (.int p3), .val (.int p4), .val (.int (v_rm0_0 p1 p2)), .val (.int (p3 &&& (7 : Int32))), .val (.int (jb p4)), .val (.ref b49), .val (.int (3 : Int32)), .unset]) rfl k) ?_
        refine go _ (T87.setTop (mkF m 169 #[.val (.int p1), .val (.int p2), .val (.int p3), .val (.int p4), .val (.int (v_rm0_0 p1 p2)), .val (.int (p3 &&& (7 : Int32))), .val (.int (jb p4)), .val (.ref b49), .val (.int (3 : Int32)), .unset] [])) (fun t k => XS.goto X87.here hx rfl (pc0 := 150) (pc' := 169) rfl (hb hby at_150) (by decide) (by decide) k) ?_
        exact tail _ (by unfold own_cnt; rw [if_neg hc133, if_neg hc134, if_pos hc135])
      · refine go _ (T87.setTop (mkF m 153 #[.val (.int p1), .val (.int p2), .val (.int p3), .val (.int p4), .val (.int (v_rm0_0 p1 p2)), .val (.int (p3 &&& (7 : Int32))), .val (.int (jb p4)), .val (.ref b49), .unset, .unset] [])) (fun t k => XS.icmpYes X87.here hx rfl (pc0 := 144) (pc' := 153) rfl (hb hby at_144) rfl (flt hc135).2.1 (by decide) (by decide) k) ?_
        refine go _ (T87.setTop (mkF m 155 #[.val (.int p1), .val (.int p2), .val (.int p3), .val (.int p4), .val (.int (v_rm0_0 p1 p2)), .val (.int (p3 &&& (7 : Int32))), .val (.int (jb p4)), .val (.ref b49), .unset, .unset] [(.int (v_rm0_0 p1 p2))])) (fun t k => XS.iload X87.here hx rfl (hb hby at_153) rfl k) ?_
        refine go _ (T87.setTop (mkF m 157 #[.val (.int p1), .val (.int p2), .val (.int p3), .val (.int p4), .val (.int (v_rm0_0 p1 p2)), .val (.int (p3 &&& (7 : Int32))), .val (.int (jb p4)), .val (.ref b49), .unset, .unset] [(.int (268435456 : Int32)), (.int (v_rm0_0 p1 p2))])) (X87.ldcInt hx hown (mvT hZ (hw _ (List.mem_of_getElem? (i := 11) rfl))) (g := (mkF m 155 #[.val (.int p1), .val (.int p2), .val (.int p3), .val (.int p4), .val (.int (v_rm0_0 p1 p2)), .val (.int (p3 &&& (7 : Int32))), .val (.int (jb p4)), .val (.ref b49), .unset, .unset] [(.int (v_rm0_0 p1 p2))])) rfl (hb hby at_155)) ?_
        by_cases hc136 : (v_rm0_0 p1 p2) < (268435456 : Int32)
        · refine go _ (T87.setTop (mkF m 160 #[.val (.int p1), .val (.int p2), .val (.int p3), .val (.int p4), .val (.int (v_rm0_0 p1 p2)), .val (.int (p3 &&& (7 : Int32))), .val (.int (jb p4)), .val (.ref b49), .unset, .unset] [])) (fun t k => XS.icmpNo X87.here hx rfl (hb hby at_157) rfl (tlt hc136).2.1 k) ?_
          refine go _ (T87.setTop (mkF m 161 #[.val (.int p1), .val (.int p2), .val (.int p3), .val (.int p4), .val (.int (v_rm0_0 p1 p2)), .val (.int (p3 &&& (7 : Int32))), .val (.int (jb p4)), .val (.ref b49), .unset, .unset] [(.int (4 : Int32))])) (fun t k => XS.iconst X87.here hx rfl (hb hby at_160) k) ?_
          refine go _ (T87.setTop (mkF m 163 #[.val (.int p1), .val (.int p2), .val (.int p3), .val (.int p4), .val (.int (v_rm0_0 p1 p2)), .val (.int (p3 &&& (7 : Int32))), .val (.int (jb p4)), .val (.ref b49), .val (.int (4 : Int32)), .unset] [])) (fun t k => XS.istore X87.here hx rfl (hb hby at_161) rfl (l' := #[.val (.int p1), .val (.int p2), .val (.int p3), .val (.int p4), .val (.int (v_rm0_0 p1 p2)), .val (.int (p3 &&& (7 : Int32))), .val (.int (jb p4)), .val (.ref b49), .val (.int (4 : Int32)), .unset]) rfl k) ?_
          refine go _ (T87.setTop (mkF m 169 #[.val (.int p1), .val (.int p2), .val (.int p3), .val (.int p4), .val (.int (v_rm0_0 p1 p2)), .val (.int (p3 &&& (7 : Int32))), .val (.int (jb p4)), .val (.ref b49), .val (.int (4 : Int32)), .unset] [])) (fun t k => XS.goto X87.here hx rfl (pc0 := 163) (pc' := 169) rfl (hb hby at_163) (by decide) (by decide) k) ?_
          exact tail _ (by unfold own_cnt; rw [if_neg hc133, if_neg hc134, if_neg hc135, if_pos hc136])
        · refine go _ (T87.setTop (mkF m 166 #[.val (.int p1), .val (.int p2), .val (.int p3), .val (.int p4), .val (.int (v_rm0_0 p1 p2)), .val (.int (p3 &&& (7 : Int32))), .val (.int (jb p4)), .val (.ref b49), .unset, .unset] [])) (fun t k => XS.icmpYes X87.here hx rfl (pc0 := 157) (pc' := 166) rfl (hb hby at_157) rfl (flt hc136).2.1 (by decide) (by decide) k) ?_
          refine go _ (T87.setTop (mkF m 167 #[.val (.int p1), .val (.int p2), .val (.int p3), .val (.int p4), .val (.int (v_rm0_0 p1 p2)), .val (.int (p3 &&& (7 : Int32))), .val (.int (jb p4)), .val (.ref b49), .unset, .unset] [(.int (5 : Int32))])) (fun t k => XS.iconst X87.here hx rfl (hb hby at_166) k) ?_
          refine go _ (T87.setTop (mkF m 169 #[.val (.int p1), .val (.int p2), .val (.int p3), .val (.int p4), .val (.int (v_rm0_0 p1 p2)), .val (.int (p3 &&& (7 : Int32))), .val (.int (jb p4)), .val (.ref b49), .val (.int (5 : Int32)), .unset] [])) (fun t k => XS.istore X87.here hx rfl (hb hby at_167) rfl (l' := #[.val (.int p1), .val (.int p2), .val (.int p3), .val (.int p4), .val (.int (v_rm0_0 p1 p2)), .val (.int (p3 &&& (7 : Int32))), .val (.int (jb p4)), .val (.ref b49), .val (.int (5 : Int32)), .unset]) rfl k) ?_
          exact tail _ (by unfold own_cnt; rw [if_neg hc133, if_neg hc134, if_neg hc135, if_neg hc136])
set_option maxRecDepth 65536 in
set_option maxHeartbeats 40000000 in
theorem comes_1 {Post : Tables → Env → Array Value → State → Outcome → State → Prop} (hpost : ∀ tb e args s v u, (limb_1_1.after args s (.returned v) u = true ∧ limb_1_2.after args s (.returned v) u = true ∧ True) → FrameEnd s (.returned v) u (Jvm.fieldLocs frame_1_writes args s ++ Jvm.arrayLocs frame_1_arrays args s ++ Jvm.staticLocs frame_1_statics s) 16 128 → Post tb e args s (.returned v) u) :
    ArmFor flags0 classFile x code maxLocals ret World_1 tables_1 room_1 Calls_1 rest_1 Pre_1 Post := by
  intro l hfl _ _ p e ha hc hk s m args below hf hA hF happ hP
  obtain ⟨hcalls, hrest, hpre⟩ := hP
  obtain ⟨-, -, -, hnamed, -, -, -, hat⟩ := (Spec.applies_iff hf).mp happ
  obtain ⟨hg, hn⟩ := and_e (Cond.before_iff.mp (show (Jvm.Cond.and given_1 narrow_1).before args s = true from hpre))
  obtain ⟨gc, g1⟩ := and_e hg
  obtain ⟨ga0, g2⟩ := and_e g1
  obtain ⟨ga1, g3⟩ := and_e g2
  obtain ⟨ga2, g4⟩ := and_e g3
  have ga3 := g4
  obtain ⟨w0, w1, w2, w3, rfl⟩ : ∃ w0 w1 w2 w3 : Value, args = #[w0, w1, w2, w3] := by
    have hs : args.size = 4 := by simpa [Cond.value, given_1] using gc
    obtain ⟨L⟩ := args
    match L, hs with
    | [w0, w1, w2, w3], _ => exact ⟨w0, w1, w2, w3, rfl⟩
  have hw := fun d (hd : d ∈ tables_1) => atoms_spec (ws := Jvm.Cond.code x code maxLocals ret :: tables_1) hat d (List.mem_cons_of_mem _ hd)
  obtain ⟨i0, ei0⟩ := is_v ga0
  obtain rfl : w0 = (.int i0) := Option.some.inj ei0
  obtain ⟨i1, ei1⟩ := is_v ga1
  obtain rfl : w1 = (.int i1) := Option.some.inj ei1
  obtain ⟨i2, ei2⟩ := is_v ga2
  obtain rfl : w2 = (.int i2) := Option.some.inj ei2
  obtain ⟨i3, ei3⟩ := is_v ga3
  obtain rfl : w3 = (.int i3) := Option.some.inj ei3
  obtain ⟨n, o, h1, h2, h3, _, L, rfl, ⟨rfl, N⟩, hq⟩ := rm0 l s _ hw tables_1 i0 i1 i2 i3 s.heap s.heap.size (Nat.le_refl _) p e ha hc hk s m _ below hf ((Spec.applies_iff_loose hf).mp happ).1 ⟨rfl, State.Warmed39.refl s, rfl⟩ trivial
  refine ⟨n, _, h1, h2, h3, hpost _ _ _ _ _ _ ⟨Cond.after_iff.mpr rfl, Cond.after_iff.mpr (eq_i res_at (Term.int_eval (1)) rfl), trivial⟩ ⟨hq.1, hq.2.1, (hq.2.2.sift fun y hy => Or.inr (N y hy)).mono (by decide) (by decide)⟩⟩
theorem main_1_1 : Claimed_1_1 := comes_1 fun _ _ _ _ _ _ h hF => ⟨h.1, hF⟩
theorem main_1_2 : Claimed_1_2 := comes_1 fun _ _ _ _ _ _ h hF => ⟨h.2.1, hF⟩
end Jvm.Pilot.@@N@@
namespace Jvm.Pilot.@@N@@
open Jvm Jvm.ClassFile Sem Op Lib Jvm.Free Jvm.Stand Jvm.Pilot.@@N@@.Jvm.D
/-! MADE BY PROGRAM (witnessworld.py) out of the Statement's table words and the real class files: 9 classes; the members and pool entries that the words name. The judged class is class 1, her method 1. -/
namespace start1
open Jvm.ClassFile
def u (s : String) : CpInfo := .utf8 (stringToUtf16 s)
/-- a pool by its gaps: so many unusable entries, then the entry; so many at the end -/
def gap : Nat → List CpInfo → List CpInfo
  | 0, r => r
  | n + 1, r => .unusable :: gap n r
def poolList (es : List (Nat × CpInfo)) (last : Nat) : List CpInfo := es.foldr (fun e r => gap e.1 (e.2 :: r)) (gap last [])
def pool (es : List (Nat × CpInfo)) (last : Nat) : Array CpInfo := ⟨poolList es last⟩
def fileOf (pool : Array CpInfo) (this : Nat) (attrs : Array Attribute := #[]) (ms : Array MethodInfo := #[]) (fl : Nat := 33) (sup : Nat := 0) (ifs : Array Nat := #[]) (fds : Array FieldInfo := #[]) : ClassFile where
  minorVersion := 0
  majorVersion := 65
  constantPool := pool
  accessFlags := fl
  thisClass := this
  superClass := sup
  interfaces := ifs
  fields := fds
  methods := ms
  attributes := attrs
def plain (name : String) (sup : Option ClassId) : Class where
  name := name
  kind := .ordinary
  loader := none
  accessFlags := 33
  super := sup
  interfaces := #[]
  cf := none
  fields := #[]
  methods := #[]
  instanceTypes := #[]
  staticTypes := #[]
  resolved := #[]
  callSites := []
  init := .initialized
  statics := none
  mirror := none

def pool0 : Array CpInfo := pool [(5, u "<init>"), (0, u "()V"), (1, .class_ 10), (1, u "java/lang/Object")] 113

def k0m0 : Method := { name := "<init>", desc := "()V", sig := { parameters := [], returnType := none }, accessFlags := 1, code := none }
/-- java/lang/Object -/
def k0 : Class := { plain "java/lang/Object" none with
  accessFlags := 33
  interfaces := #[]
  cf := some (fileOf pool0 8 #[] #[{ accessFlags := 1, nameIndex := 5, descriptorIndex := 6, attributes := #[] }] 33 0 #[] #[])
  fields := #[]
  methods := #[k0m0]
  instanceTypes := #[]
  staticTypes := #[]
  resolved := Array.replicate 124 none
  statics := none }

def pool1 : Array CpInfo := pool [(2, .class_ 4), (1, u "java/lang/Object"), (0, u "<init>"), (0, u "()V"), (0, .integer 2147483647), (0, .integer 2097152), (0, .integer 268435456), (0, .methodref 11 12), (0, .class_ 13), (0, .nameAndType 14 15), (0, u "com/example/keyspace_ledger/keyspaceledger/LengthPrefix"), (0, u "write"), (0, u "([BII)I"), (0, .methodref 17 18), (0, .class_ 19), (0, .nameAndType 20 21), (0, u "com/example/keyspace_ledger/keyspaceledger/LengthPrefixWritePinLaw"), (0, u "at"), (0, u "([BIIIIB)Z"), (2, u "law"), (0, u "(IIII)Z")] 5

def k1m0 : Method := { name := "<init>", desc := "()V", sig := { parameters := [], returnType := none }, accessFlags := 2, code := none }
def k1c1 : Code := { maxStack := 6, maxLocals := 10, code := code, exceptionTable := #[], attributes := #[] }
def k1m1 : Method := { name := "law", desc := "(IIII)Z", sig := { parameters := [.int, .int, .int, .int], returnType := some .boolean }, accessFlags := 9, code := some k1c1 }
def k1c2 : Code := { maxStack := 3, maxLocals := 9, code := method_3_code, exceptionTable := #[], attributes := #[] }
def k1m2 : Method := { name := "at", desc := "([BIIIIB)Z", sig := { parameters := [(.array .byte), .int, .int, .int, .int, .byte], returnType := some .boolean }, accessFlags := 10, code := some k1c2 }
/-- com/example/keyspace_ledger/keyspaceledger/LengthPrefixWritePinLaw -/
def k1 : Class := { plain "com/example/keyspace_ledger/keyspaceledger/LengthPrefixWritePinLaw" (some 0) with
  accessFlags := 49
  interfaces := #[]
  cf := some (fileOf pool1 17 #[] #[{ accessFlags := 2, nameIndex := 5, descriptorIndex := 6, attributes := #[] }, { accessFlags := 9, nameIndex := 24, descriptorIndex := 25, attributes := #[] }, { accessFlags := 10, nameIndex := 20, descriptorIndex := 21, attributes := #[] }] 49 2 #[] #[])
  fields := #[]
  methods := #[k1m0, k1m1, k1m2]
  instanceTypes := #[]
  staticTypes := #[]
  resolved := Array.replicate 31 none
  statics := none }

def pool2 : Array CpInfo := pool [(2, .class_ 4), (1, u "java/lang/Object"), (0, u "<init>"), (0, u "()V"), (0, .class_ 8), (0, u "com/example/keyspace_ledger/keyspaceledger/LengthPrefix"), (2, u "write"), (0, u "([BII)I")] 7

def k2m0 : Method := { name := "<init>", desc := "()V", sig := { parameters := [], returnType := none }, accessFlags := 2, code := none }
def k2c1 : Code := { maxStack := 4, maxLocals := 5, code := prog_34_method_2_code, exceptionTable := #[], attributes := #[] }
def k2m1 : Method := { name := "write", desc := "([BII)I", sig := { parameters := [(.array .byte), .int, .int], returnType := some .int }, accessFlags := 8, code := some k2c1 }
/-- com/example/keyspace_ledger/keyspaceledger/LengthPrefix -/
def k2 : Class := { plain "com/example/keyspace_ledger/keyspaceledger/LengthPrefix" (some 0) with
  accessFlags := 48
  interfaces := #[]
  cf := some (fileOf pool2 7 #[] #[{ accessFlags := 2, nameIndex := 5, descriptorIndex := 6, attributes := #[] }, { accessFlags := 8, nameIndex := 11, descriptorIndex := 12, attributes := #[] }] 48 2 #[] #[])
  fields := #[]
  methods := #[k2m0, k2m1]
  instanceTypes := #[]
  staticTypes := #[]
  resolved := Array.replicate 20 none
  statics := none }

def pool3 : Array CpInfo := pool [(1, u "java/lang/Cloneable"), (0, .class_ 1), (0, u "java/lang/Object"), (0, .class_ 3)] 3

/-- java/lang/Cloneable -/
def k3 : Class := { plain "java/lang/Cloneable" (some 0) with
  accessFlags := 1537
  interfaces := #[]
  cf := some (fileOf pool3 2 #[] #[] 1537 4 #[] #[])
  fields := #[]
  methods := #[]
  instanceTypes := #[]
  staticTypes := #[]
  resolved := Array.replicate 8 none
  statics := none }

def pool4 : Array CpInfo := pool [(1, u "java/io/Serializable"), (0, .class_ 1), (0, u "java/lang/Object"), (0, .class_ 3)] 3

/-- java/io/Serializable -/
def k4 : Class := { plain "java/io/Serializable" (some 0) with
  accessFlags := 1537
  interfaces := #[]
  cf := some (fileOf pool4 2 #[] #[] 1537 4 #[] #[])
  fields := #[]
  methods := #[]
  instanceTypes := #[]
  staticTypes := #[]
  resolved := Array.replicate 8 none
  statics := none }

/-- the primitive byte -/
def k5 : Class := { plain "byte" none with kind := .primitive 'B', accessFlags := 0x411 }
/-- [B -/
def k6 : Class := { plain "[B" (some 0) with kind := .array 5 .byte, interfaces := #[3, 4], accessFlags := 1041 }

/-- the primitive int -/
def k7 : Class := { plain "int" none with kind := .primitive 'I', accessFlags := 0x411 }
/-- [I -/
def k8 : Class := { plain "[I" (some 0) with kind := .array 7 .int, interfaces := #[3, 4], accessFlags := 1041 }

def heap : Heap := #[]
def classes : Array Class := #[k0, k1, k2, k3, k4, k5, k6, k7, k8]
def interned : List (Array UInt16 × Addr) := []
def slotsUsed : Nat := 0
def theMethod : MethodId := ⟨1, 1⟩
def args0 : Array Value := #[.int 5, .int 61, .int 3, .int 4]
def aboutOver (below : List Frame) : State where
  vm := { classes := classes, interned := interned.toArray }
  heap := heap
  slotsUsed := slotsUsed
  threads := #[{ frames := .invoking theMethod args0 :: below }]
def below0 : List Frame := [.native { method := ⟨0, 0⟩, args := #[] }]
def about1 : State := aboutOver below0
def p0 : Program := .bare "" "" ""
def e0 : Env := launch0.env 0 0 0
theorem w_frames : about1.frames = Frame.invoking theMethod args0 :: below0 := rfl
set_option maxRecDepth 65536 in
theorem w_args : argsFit about1.vm theMethod args0 = true := by decide +kernel
set_option maxRecDepth 65536 in
theorem w_heap : heapFits about1 = true := by decide +kernel
set_option maxRecDepth 65536 in
theorem w_runnable : about1.curStatus? = some .runnable := by decide +kernel
set_option maxRecDepth 65536 in
theorem w_alone : about1.alone = true := by decide +kernel
set_option maxRecDepth 65536 in
theorem w_named : about1.methodNamed? x = some theMethod := by decide +kernel
set_option maxRecDepth 65536 in
theorem w_hears : about1.hears theMethod below0 = true := by decide +kernel
set_option maxRecDepth 65536 in
theorem w_ripe : about1.ripe theMethod args0 below0 = true := by decide +kernel
theorem w_running : about1.status = .running := rfl
set_option maxRecDepth 65536 in
theorem w_room : about1.hasRoom e0.platform room_1 = true :=
  launch0.hasRoom_least _ room_1 (by decide +kernel) (by decide +kernel) (by decide +kernel) (by decide +kernel) (by decide +kernel) (by decide +kernel)
theorem allAtoms_all (ts : List Jvm.Cond) (a : Array Jvm.Value) (st : Jvm.State) : (allAtoms ts).before a st = ts.all (fun c => c.before a st) := by
  induction ts with
  | nil => rfl
  | cons c t ih =>
    show (Jvm.Cond.and c (allAtoms t)).before a st = _
    rw [Jvm.Cond.before_and, ih, List.all_cons]
def words1 : List Jvm.Cond := Jvm.Cond.code x code maxLocals ret :: tables_1
/-- a 'code' word, met by the world's own term for the bytes: nothing is compared byte by byte -/
theorem code_word {y : MethodName} {bytes : ByteArray} {mx : Nat} {rt : Option FieldType} {a : Array Value} {s : State} {m : MethodId} {meth : Method} {c : Code} (h1 : s.methodNamed? y = some m) (h2 : s.vm.method? m = some meth) (h3 : meth.code = some c) (h4 : c.code = bytes)
    (h5 : (c.maxLocals == mx && c.exceptionTable.isEmpty && decide (c.maxStack ≤ mostOperands) && decide (meth.sig.returnType = rt) && !meth.locks && decide (parseMethodDescriptor y.desc = some meth.sig)) = true) : (Jvm.Cond.code y bytes mx rt).before a s = true := by
  simp only [Bool.and_eq_true, beq_iff_eq, Bool.not_eq_true', decide_eq_true_eq] at h5
  obtain ⟨⟨⟨⟨⟨g1, g2⟩, g3⟩, g4⟩, g5⟩, g6⟩ := h5
  simp [Cond.before, Cond.holds, Cond.value, h1, h2, h3, h4, g1, g2, g3, g4, g5, g6]
def isCode : Jvm.Cond → Bool
  | .code _ _ _ _ => true
  | _ => false
theorem all_split {L : List Jvm.Cond} {P : Jvm.Cond → Bool} (h1 : L.all (fun c => isCode c || P c) = true) (h2 : ∀ c ∈ L.filter isCode, P c = true) : L.all P = true := by
  refine List.all_eq_true.mpr fun c hc => ?_
  have h := List.all_eq_true.mp h1 c hc
  rcases Bool.eq_false_or_eq_true (isCode c) with hi | hi
  · exact h2 c (List.mem_filter.mpr ⟨hc, hi⟩)
  · simpa [hi] using h
set_option maxRecDepth 65536 in
theorem w_c0 : (Jvm.Cond.code x code maxLocals ret).before args0 about1 = true := code_word (m := ⟨1, 1⟩) (meth := k1m1) (c := k1c1) (by decide +kernel) rfl rfl rfl (by decide +kernel)
set_option maxRecDepth 65536 in
theorem w_c1 : (Jvm.Cond.code ({ cls := "com/example/keyspace_ledger/keyspaceledger/LengthPrefix", name := "write", desc := "([BII)I" } : Jvm.MethodName) prog_34_method_2_code (5 : Nat) (Option.some Jvm.ClassFile.FieldType.int)).before args0 about1 = true := code_word (m := ⟨2, 1⟩) (meth := k2m1) (c := k2c1) (by decide +kernel) rfl rfl rfl (by decide +kernel)
set_option maxRecDepth 65536 in
theorem w_c2 : (Jvm.Cond.code ({ cls := "com/example/keyspace_ledger/keyspaceledger/LengthPrefixWritePinLaw", name := "at", desc := "([BIIIIB)Z" } : Jvm.MethodName) method_3_code (9 : Nat) (Option.some Jvm.ClassFile.FieldType.boolean)).before args0 about1 = true := code_word (m := ⟨1, 2⟩) (meth := k1m2) (c := k1c2) (by decide +kernel) rfl rfl rfl (by decide +kernel)
def codes1 : List Jvm.Cond := [Jvm.Cond.code x code maxLocals ret, Jvm.Cond.code ({ cls := "com/example/keyspace_ledger/keyspaceledger/LengthPrefix", name := "write", desc := "([BII)I" } : Jvm.MethodName) prog_34_method_2_code (5 : Nat) (Option.some Jvm.ClassFile.FieldType.int), Jvm.Cond.code ({ cls := "com/example/keyspace_ledger/keyspaceledger/LengthPrefixWritePinLaw", name := "at", desc := "([BIIIIB)Z" } : Jvm.MethodName) method_3_code (9 : Nat) (Option.some Jvm.ClassFile.FieldType.boolean)]
set_option maxRecDepth 65536 in
theorem codes_eq : words1.filter isCode = codes1 := rfl
theorem w_codes : ∀ c ∈ words1.filter isCode, c.before args0 about1 = true := by
  rw [codes_eq]
  intro c hc
  simp only [codes1, List.mem_cons, List.not_mem_nil, or_false] at hc
  rcases hc with rfl | rfl | rfl
  · exact w_c0
  · exact w_c1
  · exact w_c2
set_option maxRecDepth 65536 in
theorem w_t1 : words1.all (fun c => isCode c || c.before args0 about1) = true := by decide +kernel
theorem w_tables : (allAtoms (Jvm.Cond.code x code maxLocals ret :: tables_1)).before args0 about1 = true := by
  rw [allAtoms_all]
  show words1.all (fun c => c.before args0 about1) = true
  refine all_split ?_ w_codes
  rw [w_t1]
set_option maxRecDepth 65536 in
theorem w_case : (Jvm.Cond.and given_1 narrow_1).before args0 about1 = true := by decide +kernel
theorem w_applies : (headSpec (Jvm.Cond.code x code maxLocals ret :: tables_1) room_1).applies x e0.platform about1 = true :=
  (Spec.applies_iff w_frames).mpr ⟨w_running, w_runnable, w_alone, w_named, w_hears, w_ripe, w_room, w_tables⟩
theorem atStart : AtStart classFile x code maxLocals ret World_1 tables_1 room_1 Calls_1 rest_1 Pre_1 launch0 p0 e0 about1 theMethod args0 below0 :=
  ⟨lists_1, trivial, launch0.admits_env _ _ _, launch0.least_env, fairChoices_fair.cas, fairChoices_fair.clock, w_frames, w_args, w_heap, w_applies, trivial, trivial, w_case⟩
end start1
theorem witness_1 : WitnessClaimed_1 := ⟨start1.p0, start1.e0, start1.about1, start1.theMethod, start1.args0, start1.below0, start1.atStart⟩
end Jvm.Pilot.@@N@@
