import JvmDerived
import JvmDerived.Pilot.@@N@@Statement
import JvmDerived.Pilot.@@N@@Code
set_option linter.unusedVariables false
set_option linter.unusedSimpArgs false
namespace Jvm.RoadKit
open Sem ClassFile Op Lib Jvm.Stand Jvm.Free Jvm.LawKit
section New
variable {p : Program} {l : Launch} {e : Env} {R : Room} {s : State} {m : MethodId} {args : Array Value} {below : List Frame} {meth : Method} {c : Code} {T : State} {locs : List Loc} {cells slots : Nat}
theorem retI (X : Stand p l e R s m args below meth c T locs cells slots) (hx : p.tables.exec = Jvm.exec) {pc : Nat} {Ls : Array Slot} {z : Int32} {rest : List Value} (hret : meth.sig.returnType = some .int) (hd : decode c.code pc = .ok (.ireturn, 1)) {fs : List Frame}
    (hl : ∀ (f : JFrame) (acts : List Action), f.method = m → f.locked = none → f.entered = [] → (doReturn e (T.setTop f) acts (some (.int z))).1 = T.setFrames fs) : Steps p.tables e below (T.setTop (mkF m pc Ls (.int z :: rest))) (T.setFrames fs) := by
  have hm' : T.vm.method? m = some meth := X.method'
  have hn : narrow .int (.int z) = .int z := rfl
  show Steps p.tables e below (T.setTop { method := m, pc := pc, locals := Ls, stack := _ :: rest, locked := none }) _
  jvm_step X.here [X.here.top, hx, hd, hm', hret, hn]
  first | (intro acts; rw [hl _ acts rfl rfl rfl]) | rw [hl _ _ rfl rfl rfl]
  exact Steps.refl _
theorem retJ (X : Stand p l e R s m args below meth c T locs cells slots) (hx : p.tables.exec = Jvm.exec) {pc : Nat} {Ls : Array Slot} {z : Int64} {rest : List Value} (hret : meth.sig.returnType = some .long) (hd : decode c.code pc = .ok (.lreturn, 1)) {fs : List Frame}
    (hl : ∀ (f : JFrame) (acts : List Action), f.method = m → f.locked = none → f.entered = [] → (doReturn e (T.setTop f) acts (some (.long z))).1 = T.setFrames fs) : Steps p.tables e below (T.setTop (mkF m pc Ls (.long z :: rest))) (T.setFrames fs) :=
  retOut X hx hret rfl (Or.inr (Or.inl ⟨rfl, rfl, z, rfl⟩)) hd hl
theorem retA (X : Stand p l e R s m args below meth c T locs cells slots) (hx : p.tables.exec = Jvm.exec) {pc : Nat} {Ls : Array Slot} {a : Addr} {t : FieldType} {rest : List Value} (hret : meth.sig.returnType = some t) (ht : t.isReference = true) (hd : decode c.code pc = .ok (.areturn, 1)) {fs : List Frame}
    (hl : ∀ (f : JFrame) (acts : List Action), f.method = m → f.locked = none → f.entered = [] → (doReturn e (T.setTop f) acts (some (.ref a))).1 = T.setFrames fs) : Steps p.tables e below (T.setTop (mkF m pc Ls (.ref a :: rest))) (T.setFrames fs) :=
  retOut X hx hret (by cases t <;> first | rfl | (simp [FieldType.isReference] at ht)) (Or.inr (Or.inr (Or.inr (Or.inr ⟨rfl, ht, rfl⟩)))) hd hl
end New
end Jvm.RoadKit
namespace Jvm.Pilot.@@N@@
open Jvm Jvm.ClassFile Sem Op Lib Jvm.Free Jvm.Stand Jvm.LawKit Jvm.RoadKit Bundle Jvm.Pilot.@@N@@.Jvm.D
section OwnKit
variable {p : Program} {l : Launch} {e : Env} {R : Room} {s : State} {m : MethodId} {args : Array Value} {below : List Frame} {meth : Method} {c : Code} {T : State} {locs : List Loc} {cells slots : Nat} {Z : State} {h h' : Heap}
/-- one body's contract, with the walk's goal as a closed predicate K: 'go' takes a step, 'fin' leaves the method -/
theorem own_body {y : MethodName} {bytes : ByteArray} {maxL : Nat} {ret : Option FieldType} {ws : List Jvm.Cond} {rm : Room} {h0 : Heap} {Q : Option Value → Heap → List Loc → Prop} (hp : plainFor y = true)
    (body : ∀ (p : Program) (e : Env) (s : State) (m : MethodId) (below : List Frame) (meth : Method) (c : Code) (s₁ : State) (K : State → Prop),
      (∀ U U', (∀ t, Steps p.tables e below U' t → Steps p.tables e below U t) → K U' → K U) →
      (∀ {T : State} {locs : List Loc} {cells slots : Nat} {g : JFrame} (v : Option Value), Stand p l e rm s m args below meth c T locs cells slots → cells ≤ rm.cells → slots ≤ rm.slots → (ret = none → v = none) → Q v T.heap locs →
        (∀ fs, (∀ (f : JFrame) (acts : List Action), f.method = m → f.locked = none → f.entered = [] → (doReturn e (T.setTop f) acts v).1 = T.setFrames fs) → Steps p.tables e below (T.setTop g) (T.setFrames fs)) → K (T.setTop g)) →
      Stand p l e rm s m args below meth c s₁ [] 0 0 → p.tables.exec = Jvm.exec → c.code = bytes → c.maxLocals = maxL → s.vm.findClass y.cls = some m.cls → meth.name = y.name → meth.sig.returnType = ret → Z.Warmed39 s.vm → s₁.heap = h0 → K (s₁.setTop (entryFrame m args maxL))) :
    MetFree l y (head1 (Jvm.Cond.code y bytes maxL ret :: ws) rm) (fun a U => a = args ∧ Z.Warmed39 U.vm ∧ U.heap = h0) (fun _ _ _ _ _ => True) (fun _ U o U' => ∃ v L, o = .returned v ∧ Q v U'.heap L ∧ FrameEnd U o U' L rm.cells rm.slots) := by
  refine MetFree.of_bodySF hp hisR ?_
  intro p e s m args' below meth c s₁ Bd hml hP hK
  obtain ⟨rfl, hZ, hh⟩ := hP
  refine body p e s m below meth c s₁ (fun U => ∃ s₂ o, Steps p.tables e below U s₂ ∧ s₂.status = .running ∧ Ended s₂ below o ∧ ∃ v L, o = .returned v ∧ Q v s₂.heap L ∧ FrameEnd s o s₂ L rm.cells rm.slots) ?_ ?_ (Stand.of_body Bd) Bd.exec Bd.bytes hml (findClass_of_methodNamed Bd.named) (name_of_methodNamed Bd.named Bd.method).1 Bd.returns hZ (by rw [← hh, Bd.state]; rfl)
  · rintro U U' st ⟨s₂, o, h1, h2⟩
    exact ⟨s₂, o, st _ h1, h2⟩
  · intro T locs cells slots g v X hc hs hv hQ hst
    obtain ⟨fs, hr, hrun, hended, hW, hsame⟩ := X.leave (v := v) (fun q => hv (Bd.returns ▸ q))
    exact ⟨_, _, hst fs hr, hrun, hended, v, locs, rfl, hQ, ⟨_, rfl⟩, hW, hsame.mono hc hs⟩
/-! Java's shifts and the narrowing to a byte -/
def jushr (x y : Int32) : Int32 := (x.toUInt32 >>> (y &&& 31).toUInt32).toInt32
def jshl (x y : Int32) : Int32 := x <<< (y &&& 31)
def jshr (x y : Int32) : Int32 := x >>> (y &&& 31)
def jushrL (x : Int64) (y : Int32) : Int64 := (x.toUInt64 >>> (y &&& 0x3f).toInt64.toUInt64).toInt64
def jshlL (x : Int64) (y : Int32) : Int64 := x <<< (y &&& 0x3f).toInt64
def jshrL (x : Int64) (y : Int32) : Int64 := x >>> (y &&& 0x3f).toInt64
def jb (x : Int32) : Int32 := x.toInt8.toInt32
theorem own_lrem {g : JFrame} {target : State} (X : Stand p l e R s m args below meth c T locs cells slots) (hx : p.tables.exec = Jvm.exec) (hg : g.method = m) {x y : Int64} {rest : List Value} (hd : decode c.code g.pc = .ok (.lrem, 1)) (hs : g.stack = .long y :: .long x :: rest) (hy : y ≠ 0)
    (hr : Steps p.tables e below (T.setTop { g with pc := g.pc + 1, stack := .long (x % y) :: rest }) target) : Steps p.tables e below (T.setTop g) target :=
  XS.lrem X.here hx hg hd hs hy (by rw [lrem_mod]; exact hr)
theorem own_narb (x : Int32) : nar .byte (jb x) = jb x := by simp [nar, jb]
/-! an array by its length and what its places hold -/
def own_upd (f : Nat → Value) (i : Nat) (v : Value) : Nat → Value := fun j => if j = i then v else f j
theorem own_hit (f : Nat → Value) (i : Nat) (v : Value) : own_upd f i v i = v := if_pos rfl
theorem own_miss {f : Nat → Value} {i j : Nat} {v : Value} (q : j ≠ i) : own_upd f i v j = f j := if_neg q
def AF (Z : State) (h : Heap) (a : Addr) (ty : FieldType) (n : Nat) (f : Nat → Value) : Prop := n < 2 ^ 31 ∧ ∃ c : Cell, Arr Z h a c ty ∧ c.slots.size = n ∧ ∀ j, j < n → c.slots[j]? = some (f j)
theorem AF.lt {a : Addr} {ty : FieldType} {n : Nat} {f : Nat → Value} (A : AF Z h a ty n f) : a < h.size := by obtain ⟨-, c, A, -⟩ := A; exact A.lt
theorem AF.ext {a : Addr} {ty : FieldType} {n : Nat} {f : Nat → Value} (A : AF Z h a ty n f) (E : Ext h h') : AF Z h' a ty n f := by obtain ⟨q, c, A, r⟩ := A; exact ⟨q, c, A.ext E, r⟩
theorem AF.other {a b : Addr} {sl : Nat} {v : Value} {ty : FieldType} {n : Nat} {f : Nat → Value} (A : AF Z h b ty n f) (W : Wr h h' a sl v) (q : b ≠ a) : AF Z h' b ty n f := by obtain ⟨q1, c, A, r⟩ := A; exact ⟨q1, c, A.other W q, r⟩
theorem AF.keep {a : Addr} {ws : List Addr} {ty : FieldType} {n : Nat} {f : Nat → Value} (A : AF Z h a ty n f) (K : Keep h h' ws) (q : a ∉ ws) : AF Z h' a ty n f := by obtain ⟨q1, c, A, r⟩ := A; exact ⟨q1, c, ⟨K.2.1 a c A.1 q, A.2⟩, r⟩
theorem AF.congr {a : Addr} {ty : FieldType} {n : Nat} {f f' : Nat → Value} (A : AF Z h a ty n f) (q : ∀ j, j < n → f j = f' j) : AF Z h a ty n f' := by obtain ⟨q1, c, A, S, r⟩ := A; exact ⟨q1, c, A, S, fun j hj => by rw [← q j hj]; exact r j hj⟩
theorem AF.len {a : Addr} {ty : FieldType} {n : Nat} {f : Nat → Value} (A : AF Z h a ty n f) : n < 2 ^ 31 := A.1
theorem own_idx {j : Int32} {i : Nat} (hj : j.toInt = (i : Int)) : j.toNatClampNeg = i := by simp only [Int32.toNatClampNeg, hj]; omega
theorem own_in {j : Int32} {i n : Nat} {c : Cell} (S : c.slots.size = n) (hj : j.toInt = (i : Int)) (hi : i < n) : ¬ (j < 0 ∨ c.slots.size ≤ j.toNatClampNeg) := by
  rw [own_idx hj, S, Int32.lt_iff_toInt_lt, hj]
  simp only [Int32.toInt_zero]
  omega
theorem own_set {a : Addr} {ty : FieldType} {n i : Nat} {f : Nat → Value} {cl : Cell} {v : Value} (q1 : n < 2 ^ 31) (A : Arr Z h a cl ty) (S : cl.slots.size = n) (H : ∀ j, j < n → cl.slots[j]? = some (f j)) (W : Wr h h' a i v) (hi : i < n) : AF Z h' a ty n (own_upd f i v) := by
  refine ⟨q1, _, A.same W, by rw [sz_set]; exact S, fun j hj => ?_⟩
  simp only [Cell.setSlot, own_upd]
  by_cases q : j = i
  · subst q; rw [if_pos rfl]; simp [S, hj]
  · rw [if_neg q, Array.getElem?_setIfInBounds_ne (fun z => q z.symm)]; exact H j hj
theorem own_stI (X : Stand p l e R s m args below meth c T locs cells slots) (hx : p.tables.exec = Jvm.exec) (hZ : Z.Warmed39 s.vm) (eT : T.heap = h) {a : Addr} {n i : Nat} {f : Nat → Value} (A : AF Z h a .int n f) {j x : Int32} (hj : j.toInt = (i : Int)) (hi : i < n) {g : JFrame} (hg : g.method = m) {rest : List Value} (hs : g.stack = .int x :: .int j :: .ref a :: rest) (hd : decode c.code g.pc = .ok (.iastore, 1)) :
    ∃ T' h', Stand p l e R s m args below meth c T' (locs ++ [⟨a, i⟩]) cells slots ∧ T'.heap = h' ∧ Wr h h' a i (.int x) ∧ AF Z h' a .int n (own_upd f i (.int x)) ∧ ∀ target, Steps p.tables e below (T'.setTop { g with pc := g.pc + 1, stack := rest }) target → Steps p.tables e below (T.setTop g) target := by
  obtain ⟨q1, cl, Ar, S, H⟩ := A
  obtain ⟨T', h', X', e', W, st⟩ := stI X hx hZ eT Ar (j := j) (own_in S hj hi) hg hs hd
  rw [own_idx hj] at X' W
  exact ⟨T', h', X', e', W, own_set q1 Ar S H W hi, st⟩
theorem own_stJ (X : Stand p l e R s m args below meth c T locs cells slots) (hx : p.tables.exec = Jvm.exec) (hZ : Z.Warmed39 s.vm) (eT : T.heap = h) {a : Addr} {n i : Nat} {f : Nat → Value} (A : AF Z h a .long n f) {j : Int32} {x : Int64} (hj : j.toInt = (i : Int)) (hi : i < n) {g : JFrame} (hg : g.method = m) {rest : List Value} (hs : g.stack = .long x :: .int j :: .ref a :: rest) (hd : decode c.code g.pc = .ok (.lastore, 1)) :
    ∃ T' h', Stand p l e R s m args below meth c T' (locs ++ [⟨a, i⟩]) cells slots ∧ T'.heap = h' ∧ Wr h h' a i (.long x) ∧ AF Z h' a .long n (own_upd f i (.long x)) ∧ ∀ target, Steps p.tables e below (T'.setTop { g with pc := g.pc + 1, stack := rest }) target → Steps p.tables e below (T.setTop g) target := by
  obtain ⟨q1, cl, Ar, S, H⟩ := A
  obtain ⟨T', h', X', e', W, st⟩ := stJ X hx hZ eT Ar (j := j) (own_in S hj hi) hg hs hd
  rw [own_idx hj] at X' W
  exact ⟨T', h', X', e', W, own_set q1 Ar S H W hi, st⟩
theorem own_stB (X : Stand p l e R s m args below meth c T locs cells slots) (hx : p.tables.exec = Jvm.exec) (hZ : Z.Warmed39 s.vm) (eT : T.heap = h) {a : Addr} {n i : Nat} {f : Nat → Value} (A : AF Z h a .byte n f) {j x : Int32} (hj : j.toInt = (i : Int)) (hi : i < n) (hn : nar .byte x = x) {g : JFrame} (hg : g.method = m) {rest : List Value} (hs : g.stack = .int x :: .int j :: .ref a :: rest) (hd : decode c.code g.pc = .ok (.bastore, 1)) :
    ∃ T' h', Stand p l e R s m args below meth c T' (locs ++ [⟨a, i⟩]) cells slots ∧ T'.heap = h' ∧ Wr h h' a i (.int x) ∧ AF Z h' a .byte n (own_upd f i (.int x)) ∧ ∀ target, Steps p.tables e below (T'.setTop { g with pc := g.pc + 1, stack := rest }) target → Steps p.tables e below (T.setTop g) target := by
  obtain ⟨q1, cl, Ar, S, H⟩ := A
  obtain ⟨T', h', X', e', W, st⟩ := stB X hx hZ eT Ar (j := j) (own_in S hj hi) hg hs hd
  rw [own_idx hj] at X' W
  rw [hn] at W
  exact ⟨T', h', X', e', W, own_set q1 Ar S H W hi, st⟩
theorem own_new (X : Stand p l e R s m args below meth c T locs cells slots) (hx : p.tables.exec = Jvm.exec) (hZ : Z.Warmed39 s.vm) {a0 : Array Value} {aty : ArrayType} (w : (Cond.arrayClass (newarray.typeOf aty)).before a0 Z = true) (eT : T.heap = h) {g : JFrame} (hg : g.method = m) (hd : decode c.code g.pc = .ok (.newarray aty, 2)) {n : Int32} {rest : List Value} (hs : g.stack = .int n :: rest)
    {k : Nat} (hn : n.toInt = (k : Int)) (cap : Nat) (hcap : k ≤ cap) (hb : cap * 8 ≤ 536870912) (hc : cells + 1 ≤ R.cells) (hl : slots + cap ≤ R.slots) :
    ∃ T' h' a, Stand p l e R s m args below meth c T' locs (cells + 1) (slots + cap) ∧ T'.heap = h' ∧ Ext h h' ∧ a = h.size ∧ AF Z h' a (newarray.typeOf aty) k (fun _ => defaultValue (newarray.typeOf aty)) ∧
      ∀ target, Steps p.tables e below (T'.setTop { g with pc := g.pc + 2, stack := .ref a :: rest }) target → Steps p.tables e below (T.setTop g) target := by
  have hn0 : ¬ n < 0 := by rw [Int32.lt_iff_toInt_lt, hn]; simp only [Int32.toInt_zero]; omega
  have hk : n.toNatClampNeg = k := own_idx hn
  have hk31 : k < 2 ^ 31 := by have := n.toInt_lt; omega
  obtain ⟨T', h', cA, X', e', E, A, st⟩ := newP X hx hZ w eT hg hd hs hn0 (by rw [hk]; exact hcap) hb hc hl
  refine ⟨T', h', h.size, X', e', E, rfl, ⟨hk31, _, A, by rw [sz_new, hk], fun j hj => ?_⟩, st⟩
  simp [newA, hk, hj]
theorem own_ldI (X : Stand p l e R s m args below meth c T locs cells slots) (hx : p.tables.exec = Jvm.exec) (hZ : Z.Warmed39 s.vm) (eT : T.heap = h) {a : Addr} {n i : Nat} {f : Nat → Value} (A : AF Z h a .int n f) {j : Int32} (hj : j.toInt = (i : Int)) (hi : i < n) {g : JFrame} (hg : g.method = m) {rest : List Value} (hs : g.stack = .int j :: .ref a :: rest) (hd : decode c.code g.pc = .ok (.iaload, 1)) {v : Value} (hv : f i = v) (target : State)
    (hr : Steps p.tables e below (T.setTop { g with pc := g.pc + 1, stack := v :: rest }) target) : Steps p.tables e below (T.setTop g) target := by
  obtain ⟨-, cl, Ar, S, H⟩ := A
  exact X.iaload hx (j := j) (v := v) (by rw [eT]; exact Ar.1) (State.isArrayOf_alike hZ.alike Ar.2.1) Ar.2.2 (own_in S hj hi) (by rw [own_idx hj, ← hv]; exact H i hi) hg hs hd target hr
theorem own_ldJ (X : Stand p l e R s m args below meth c T locs cells slots) (hx : p.tables.exec = Jvm.exec) (hZ : Z.Warmed39 s.vm) (eT : T.heap = h) {a : Addr} {n i : Nat} {f : Nat → Value} (A : AF Z h a .long n f) {j : Int32} (hj : j.toInt = (i : Int)) (hi : i < n) {g : JFrame} (hg : g.method = m) {rest : List Value} (hs : g.stack = .int j :: .ref a :: rest) (hd : decode c.code g.pc = .ok (.laload, 1)) {v : Value} (hv : f i = v) (target : State)
    (hr : Steps p.tables e below (T.setTop { g with pc := g.pc + 1, stack := v :: rest }) target) : Steps p.tables e below (T.setTop g) target := by
  obtain ⟨-, cl, Ar, S, H⟩ := A
  exact X.laload hx (j := j) (v := v) (by rw [eT]; exact Ar.1) (State.isArrayOf_alike hZ.alike Ar.2.1) Ar.2.2 (own_in S hj hi) (by rw [own_idx hj, ← hv]; exact H i hi) hg hs hd target hr
theorem own_ldB (X : Stand p l e R s m args below meth c T locs cells slots) (hx : p.tables.exec = Jvm.exec) (hZ : Z.Warmed39 s.vm) (eT : T.heap = h) {a : Addr} {n i : Nat} {f : Nat → Value} (A : AF Z h a .byte n f) {j : Int32} (hj : j.toInt = (i : Int)) (hi : i < n) {g : JFrame} (hg : g.method = m) {rest : List Value} (hs : g.stack = .int j :: .ref a :: rest) (hd : decode c.code g.pc = .ok (.baload, 1)) {v : Value} (hv : f i = v) (target : State)
    (hr : Steps p.tables e below (T.setTop { g with pc := g.pc + 1, stack := v :: rest }) target) : Steps p.tables e below (T.setTop g) target := by
  obtain ⟨-, cl, Ar, S, H⟩ := A
  exact X.baloadBytes hx (j := j) (v := v) (by rw [eT]; exact Ar.1) (State.isArrayOf_alike hZ.alike Ar.2.1) Ar.2.2 (own_in S hj hi) (by rw [own_idx hj, ← hv]; exact H i hi) hg hs hd target hr
theorem own_len (X : Stand p l e R s m args below meth c T locs cells slots) (hx : p.tables.exec = Jvm.exec) (hZ : Z.Warmed39 s.vm) (eT : T.heap = h) {a : Addr} {ty : FieldType} {n : Nat} {f : Nat → Value} (A : AF Z h a ty n f) {g : JFrame} (hg : g.method = m) {rest : List Value} (hs : g.stack = .ref a :: rest) (hd : decode c.code g.pc = .ok (.arraylength, 1)) (target : State)
    (hr : Steps p.tables e below (T.setTop { g with pc := g.pc + 1, stack := .int (Int32.ofNat n) :: rest }) target) : Steps p.tables e below (T.setTop g) target := by
  obtain ⟨-, cl, Ar, S, H⟩ := A
  refine X.arraylength hx (by rw [eT]; exact Ar.1) (State.isArrayOf_alike hZ.alike Ar.2.1) hg hs hd target ?_
  rw [S]; exact hr
end OwnKit
theorem pd_1 : parseMethodDescriptor "([BII)I" = some ⟨[(.array .byte), .int, .int], some .int⟩ := by decide +kernel
theorem pd_2 : parseMethodDescriptor "([BI)I" = some ⟨[(.array .byte), .int], some .int⟩ := by decide +kernel
theorem own_iu7 (x : Int32) : (jushr x (7 : Int32)).toInt = (x.toInt % 4294967296) / 128 := c_iushr x 7 7 (by decide +kernel) (by decide)
theorem own_ushr_any (x y : Int32) (h : 0 ≤ x.toInt) : 0 ≤ (jushr x y).toInt ∧ (jushr x y).toInt ≤ x.toInt := by
  have e : (jushr x y).toBitVec = x.toBitVec >>> ((y &&& 31).toUInt32 % 32).toBitVec.toNat := rfl
  have t : (jushr x y).toBitVec.toNat = x.toBitVec.toNat / 2 ^ ((y &&& 31).toUInt32 % 32).toBitVec.toNat := by rw [e, BitVec.toNat_ushiftRight, Nat.shiftRight_eq_div_pow]
  have l : x.toBitVec.toNat / 2 ^ ((y &&& 31).toUInt32 % 32).toBitVec.toNat ≤ x.toBitVec.toNat := Nat.div_le_self _ _
  have b := x.toBitVec.isLt
  have a1 : x.toInt = if 2 * x.toBitVec.toNat < 2 ^ 32 then (x.toBitVec.toNat : Int) else (x.toBitVec.toNat : Int) - ((2 ^ 32 : Nat) : Int) := BitVec.toInt_eq_toNat_cond x.toBitVec
  have a2 : (jushr x y).toInt = if 2 * (jushr x y).toBitVec.toNat < 2 ^ 32 then ((jushr x y).toBitVec.toNat : Int) else ((jushr x y).toBitVec.toNat : Int) - ((2 ^ 32 : Nat) : Int) := BitVec.toInt_eq_toNat_cond (jushr x y).toBitVec
  rw [t] at a2
  generalize x.toBitVec.toNat / 2 ^ ((y &&& 31).toUInt32 % 32).toBitVec.toNat = d at *
  generalize x.toBitVec.toNat = n at *
  generalize x.toInt = X at *
  generalize (jushr x y).toInt = Y at *
  split at a1 <;> split at a2 <;> omega
theorem own_succ {x : Int32} {i : Nat} (h : x.toInt = (i : Int)) (hi : i + 1 < 2 ^ 31) : (x + (1 : Int32)).toInt = ((i + 1 : Nat) : Int) := by
  have a := c_iadd x 1
  have r := rng32 (x + 1)
  have e1 : (1 : Int32).toInt = 1 := by decide
  omega
theorem own_r4 (x : Int32) (h : 0 ≤ x.toInt) : jushr (jushr (jushr (jushr x (7 : Int32)) (7 : Int32)) (7 : Int32)) (7 : Int32) < (128 : Int32) := by
  have r := rng32 x
  have e : (128 : Int32).toInt = 128 := by decide
  rw [Int32.lt_iff_toInt_lt]
  simp only [own_iu7, e]
  omega
def own_wr (f : Nat → Value) (i : Nat) (p2 : Int32) : Nat → Value := (if p2 < (128 : Int32) then (own_upd f i (.int (jb p2))) else (if (jushr p2 (7 : Int32)) < (128 : Int32) then (own_upd (own_upd f i (.int (jb (p2 ||| (128 : Int32))))) (i + 1) (.int (jb (jushr p2 (7 : Int32))))) else (if (jushr (jushr p2 (7 : Int32)) (7 : Int32)) < (128 : Int32) then (own_upd (own_upd (own_upd f i (.int (jb (p2 ||| (128 : Int32))))) (i + 1) (.int (jb ((jushr p2 (7 : Int32)) ||| (128 : Int32))))) (i + 2) (.int (jb (jushr (jushr p2 (7 : Int32)) (7 : Int32))))) else (if (jushr (jushr (jushr p2 (7 : Int32)) (7 : Int32)) (7 : Int32)) < (128 : Int32) then (own_upd (own_upd (own_upd (own_upd f i (.int (jb (p2 ||| (128 : Int32))))) (i + 1) (.int (jb ((jushr p2 (7 : Int32)) ||| (128 : Int32))))) (i + 2) (.int (jb ((jushr (jushr p2 (7 : Int32)) (7 : Int32)) ||| (128 : Int32))))) (i + 3) (.int (jb (jushr (jushr (jushr p2 (7 : Int32)) (7 : Int32)) (7 : Int32))))) else (own_upd (own_upd (own_upd (own_upd (own_upd f i (.int (jb (p2 ||| (128 : Int32))))) (i + 1) (.int (jb ((jushr p2 (7 : Int32)) ||| (128 : Int32))))) (i + 2) (.int (jb ((jushr (jushr p2 (7 : Int32)) (7 : Int32)) ||| (128 : Int32))))) (i + 3) (.int (jb ((jushr (jushr (jushr p2 (7 : Int32)) (7 : Int32)) (7 : Int32)) ||| (128 : Int32))))) (i + 4) (.int (jb (jushr (jushr (jushr (jushr p2 (7 : Int32)) (7 : Int32)) (7 : Int32)) (7 : Int32)))))))))
def own_end (p1 p2 : Int32) : Int32 := (if p2 < (128 : Int32) then (p1 + (1 : Int32)) else (if (jushr p2 (7 : Int32)) < (128 : Int32) then ((p1 + (1 : Int32)) + (1 : Int32)) else (if (jushr (jushr p2 (7 : Int32)) (7 : Int32)) < (128 : Int32) then (((p1 + (1 : Int32)) + (1 : Int32)) + (1 : Int32)) else (if (jushr (jushr (jushr p2 (7 : Int32)) (7 : Int32)) (7 : Int32)) < (128 : Int32) then ((((p1 + (1 : Int32)) + (1 : Int32)) + (1 : Int32)) + (1 : Int32)) else (((((p1 + (1 : Int32)) + (1 : Int32)) + (1 : Int32)) + (1 : Int32)) + (1 : Int32))))))
theorem d1_0 : decode prog_34_method_2_code 0 = .ok (.iload_n 1, 1) := by decide +kernel
theorem d1_1 : decode prog_34_method_2_code 1 = .ok (.istore_n 3, 1) := by decide +kernel
theorem d1_2 : decode prog_34_method_2_code 2 = .ok (.iload_n 2, 1) := by decide +kernel
theorem d1_3 : decode prog_34_method_2_code 3 = .ok (.istore 4, 2) := by decide +kernel
theorem d1_5 : decode prog_34_method_2_code 5 = .ok (.iload 4, 2) := by decide +kernel
theorem d1_7 : decode prog_34_method_2_code 7 = .ok (.sipush 128, 3) := by decide +kernel
theorem d1_10 : decode prog_34_method_2_code 10 = .ok (.if_icmp .lt 26, 3) := by decide +kernel
theorem d1_13 : decode prog_34_method_2_code 13 = .ok (.aload_n 0, 1) := by decide +kernel
theorem d1_14 : decode prog_34_method_2_code 14 = .ok (.iload_n 3, 1) := by decide +kernel
theorem d1_15 : decode prog_34_method_2_code 15 = .ok (.iinc 3 1, 3) := by decide +kernel
theorem d1_18 : decode prog_34_method_2_code 18 = .ok (.iload 4, 2) := by decide +kernel
theorem d1_20 : decode prog_34_method_2_code 20 = .ok (.sipush 128, 3) := by decide +kernel
theorem d1_23 : decode prog_34_method_2_code 23 = .ok (.ior, 1) := by decide +kernel
theorem d1_24 : decode prog_34_method_2_code 24 = .ok (.i2b, 1) := by decide +kernel
theorem d1_25 : decode prog_34_method_2_code 25 = .ok (.bastore, 1) := by decide +kernel
theorem d1_26 : decode prog_34_method_2_code 26 = .ok (.iload 4, 2) := by decide +kernel
theorem d1_28 : decode prog_34_method_2_code 28 = .ok (.bipush 7, 2) := by decide +kernel
theorem d1_30 : decode prog_34_method_2_code 30 = .ok (.iushr, 1) := by decide +kernel
theorem d1_31 : decode prog_34_method_2_code 31 = .ok (.istore 4, 2) := by decide +kernel
theorem d1_33 : decode prog_34_method_2_code 33 = .ok (.goto (-28), 3) := by decide +kernel
theorem d1_36 : decode prog_34_method_2_code 36 = .ok (.aload_n 0, 1) := by decide +kernel
theorem d1_37 : decode prog_34_method_2_code 37 = .ok (.iload_n 3, 1) := by decide +kernel
theorem d1_38 : decode prog_34_method_2_code 38 = .ok (.iinc 3 1, 3) := by decide +kernel
theorem d1_41 : decode prog_34_method_2_code 41 = .ok (.iload 4, 2) := by decide +kernel
theorem d1_43 : decode prog_34_method_2_code 43 = .ok (.i2b, 1) := by decide +kernel
theorem d1_44 : decode prog_34_method_2_code 44 = .ok (.bastore, 1) := by decide +kernel
theorem d1_45 : decode prog_34_method_2_code 45 = .ok (.iload_n 3, 1) := by decide +kernel
theorem d1_46 : decode prog_34_method_2_code 46 = .ok (.ireturn, 1) := by decide +kernel
theorem pn_4 : plainName "com/example/keyspace_ledger/keyspaceledger/LengthPrefix" = true := by first | (simp [plainName, overriddenIn]; done) | decide +kernel
theorem ef_rm1 (m : MethodId) (a1 : Addr) (p1 : Int32) (p2 : Int32) : entryFrame m #[(.ref a1), (.int p1), (.int p2)] 5 = mkF m 0 #[.val (.ref a1), .val (.int p1), .val (.int p2), .unset, .unset] [] := by first | (simp [entryFrame, mkF, argsToLocals, Value.category]; done) | rfl
def Q_rm1 (Z : State) (a1 : Addr) (p1 : Int32) (p2 : Int32) (f : Nat → Value) (n : Nat) (i : Nat) (h0 : Heap) (n0 : Nat) (v : Option Value) (h : Heap) (L : List Loc) : Prop := v = some (.int (own_end p1 p2)) ∧ Fr n0 L ∧ Keep h0 h [a1] ∧ AF Z h a1 .byte n (own_wr f i p2)
set_option maxRecDepth 65536 in
set_option maxHeartbeats 40000000 in
theorem rm1 (l : Launch) (Z : State) (a0 : Array Value) (hw : ∀ d ∈ tables_1, d.before a0 Z = true) (ws : List Jvm.Cond) (a1 : Addr) (p1 : Int32) (p2 : Int32) (f : Nat → Value) (n : Nat) (i : Nat) (h0 : Heap) (n0 : Nat) (Z0 : n0 ≤ h0.size) (A0 : AF Z h0 a1 .byte n f) (g0 : n0 ≤ a1) (hj : p1.toInt = (i : Int)) (hi : i + 5 ≤ n) (hp : 0 ≤ p2.toInt) :
    MetFree l (⟨"com/example/keyspace_ledger/keyspaceledger/LengthPrefix", "write", "([BII)I"⟩ : MethodName) (head1 (Jvm.Cond.code (⟨"com/example/keyspace_ledger/keyspaceledger/LengthPrefix", "write", "([BII)I"⟩ : MethodName) prog_34_method_2_code 5 (some .int) :: ws) ({ frames := 0, cells := 0, slots := 0, locals := 0 } : Room)) (fun a U => a = #[(.ref a1), (.int p1), (.int p2)] ∧ Z.Warmed39 U.vm ∧ U.heap = h0) (fun _ _ _ _ _ => True) (fun _ U o U' => ∃ v L, o = .returned v ∧ Q_rm1 Z a1 p1 p2 f n i h0 n0 v U'.heap L ∧ FrameEnd U o U' L ({ frames := 0, cells := 0, slots := 0, locals := 0 } : Room).cells ({ frames := 0, cells := 0, slots := 0, locals := 0 } : Room).slots) := by
  refine own_body (Q := Q_rm1 Z a1 p1 p2 f n i h0 n0) (plainFor_of_name pn_4) ?_
  intro p e s m below meth c s₁ K go fin X0 hx hby hml hown hnm hret hZ e0
  have hown : s.vm.findClass "com/example/keyspace_ledger/keyspaceledger/LengthPrefix" = some m.cls := hown
  have N0 := Fr.nil n0
  have K0 : Keep h0 h0 [a1] := Keep.refl h0 _
  refine go _ (s₁.setTop (mkF m 0 #[.val (.ref a1), .val (.int p1), .val (.int p2), .unset, .unset] [])) (fun t k => castTop (ef_rm1 m a1 p1 p2) k) ?_
  have hn := A0.1
  have hj0 := hj
  have hj1 := own_succ hj0 (by omega)
  have hj2 := own_succ hj1 (by omega)
  have hj3 := own_succ hj2 (by omega)
  have hj4 := own_succ hj3 (by omega)
  refine go _ (s₁.setTop (mkF m 1 #[.val (.ref a1), .val (.int p1), .val (.int p2), .unset, .unset] [(.int p1)])) (fun t k => XS.iloadN X0.here hx rfl (hb hby d1_0) rfl k) ?_
  refine go _ (s₁.setTop (mkF m 2 #[.val (.ref a1), .val (.int p1), .val (.int p2), .val (.int p1), .unset] [])) (fun t k => XS.istoreN X0.here hx rfl (hb hby d1_1) rfl (l' := #[.val (.ref a1), .val (.int p1), .val (.int p2), .val (.int p1), .unset]) rfl k) ?_
  refine go _ (s₁.setTop (mkF m 3 #[.val (.ref a1), .val (.int p1), .val (.int p2), .val (.int p1), .unset] [(.int p2)])) (fun t k => XS.iloadN X0.here hx rfl (hb hby d1_2) rfl k) ?_
  refine go _ (s₁.setTop (mkF m 5 #[.val (.ref a1), .val (.int p1), .val (.int p2), .val (.int p1), .val (.int p2)] [])) (fun t k => XS.istore X0.here hx rfl (hb hby d1_3) rfl (l' := #[.val (.ref a1), .val (.int p1), .val (.int p2), .val (.int p1), .val (.int p2)]) rfl k) ?_
  refine go _ (s₁.setTop (mkF m 7 #[.val (.ref a1), .val (.int p1), .val (.int p2), .val (.int p1), .val (.int p2)] [(.int p2)])) (fun t k => XS.iload X0.here hx rfl (hb hby d1_5) rfl k) ?_
  refine go _ (s₁.setTop (mkF m 10 #[.val (.ref a1), .val (.int p1), .val (.int p2), .val (.int p1), .val (.int p2)] [(.int (128 : Int32)), (.int p2)])) (fun t k => XS.sipush X0.here hx rfl (hb hby d1_7) k) ?_
  by_cases hc1 : p2 < (128 : Int32)
  · refine go _ (s₁.setTop (mkF m 36 #[.val (.ref a1), .val (.int p1), .val (.int p2), .val (.int p1), .val (.int p2)] [])) (fun t k => XS.icmpYes X0.here hx rfl (pc0 := 10) (pc' := 36) rfl (hb hby d1_10) rfl (tlt hc1).1 (by decide) (by decide) k) ?_
    refine go _ (s₁.setTop (mkF m 37 #[.val (.ref a1), .val (.int p1), .val (.int p2), .val (.int p1), .val (.int p2)] [(.ref a1)])) (fun t k => XS.aloadN X0.here hx rfl (hb hby d1_36) rfl rfl k) ?_
    refine go _ (s₁.setTop (mkF m 38 #[.val (.ref a1), .val (.int p1), .val (.int p2), .val (.int p1), .val (.int p2)] [(.int p1), (.ref a1)])) (fun t k => XS.iloadN X0.here hx rfl (hb hby d1_37) rfl k) ?_
    refine go _ (s₁.setTop (mkF m 41 #[.val (.ref a1), .val (.int p1), .val (.int p2), .val (.int (p1 + (1 : Int32))), .val (.int p2)] [(.int p1), (.ref a1)])) (fun t k => XS.iinc X0.here hx rfl (hb hby d1_38) rfl (l' := #[.val (.ref a1), .val (.int p1), .val (.int p2), .val (.int (p1 + (1 : Int32))), .val (.int p2)]) rfl k) ?_
    refine go _ (s₁.setTop (mkF m 43 #[.val (.ref a1), .val (.int p1), .val (.int p2), .val (.int (p1 + (1 : Int32))), .val (.int p2)] [(.int p2), (.int p1), (.ref a1)])) (fun t k => XS.iload X0.here hx rfl (hb hby d1_41) rfl k) ?_
    refine go _ (s₁.setTop (mkF m 44 #[.val (.ref a1), .val (.int p1), .val (.int p2), .val (.int (p1 + (1 : Int32))), .val (.int p2)] [(.int (jb p2)), (.int p1), (.ref a1)])) (fun t k => XS.i2b X0.here hx rfl (hb hby d1_43) rfl k) ?_
    obtain ⟨T2, h2, X2, e2, W2, A2, st2⟩ := own_stB X0 hx hZ e0 A0 (i := i) hj0 (by omega) (own_narb p2) (g := (mkF m 44 #[.val (.ref a1), .val (.int p1), .val (.int p2), .val (.int (p1 + (1 : Int32))), .val (.int p2)] [(.int (jb p2)), (.int p1), (.ref a1)])) rfl rfl (hb hby d1_44)
    have Z3 : n0 ≤ h2.size := by rw [W2.size]; exact Z0
    have N4 := Fr.snoc X2 N0 g0
    have K5 := K0.wr W2 (Or.inl (by simp))
    refine go _ (T2.setTop (mkF m 45 #[.val (.ref a1), .val (.int p1), .val (.int p2), .val (.int (p1 + (1 : Int32))), .val (.int p2)] [])) (st2) ?_
    refine go _ (T2.setTop (mkF m 46 #[.val (.ref a1), .val (.int p1), .val (.int p2), .val (.int (p1 + (1 : Int32))), .val (.int p2)] [(.int (p1 + (1 : Int32)))])) (fun t k => XS.iloadN X2.here hx rfl (hb hby d1_45) rfl k) ?_
    exact fin (some (.int (p1 + (1 : Int32)))) X2 (by decide) (by decide) (fun q => by cases q) (show Q_rm1 Z a1 p1 p2 f n i h0 n0 _ T2.heap _ from (by rw [e2]; exact ⟨congrArg some (congrArg Value.int (show (p1 + (1 : Int32)) = own_end p1 p2 from (by unfold own_end; rw [if_pos hc1]))), N4, K5, (by unfold own_wr; rw [if_pos hc1]; exact A2)⟩)) (fun fs hr => retI X2 hx hret (hb hby d1_46) hr)
  · refine go _ (s₁.setTop (mkF m 13 #[.val (.ref a1), .val (.int p1), .val (.int p2), .val (.int p1), .val (.int p2)] [])) (fun t k => XS.icmpNo X0.here hx rfl (hb hby d1_10) rfl (flt hc1).1 k) ?_
    refine go _ (s₁.setTop (mkF m 14 #[.val (.ref a1), .val (.int p1), .val (.int p2), .val (.int p1), .val (.int p2)] [(.ref a1)])) (fun t k => XS.aloadN X0.here hx rfl (hb hby d1_13) rfl rfl k) ?_
    refine go _ (s₁.setTop (mkF m 15 #[.val (.ref a1), .val (.int p1), .val (.int p2), .val (.int p1), .val (.int p2)] [(.int p1), (.ref a1)])) (fun t k => XS.iloadN X0.here hx rfl (hb hby d1_14) rfl k) ?_
    refine go _ (s₁.setTop (mkF m 18 #[.val (.ref a1), .val (.int p1), .val (.int p2), .val (.int (p1 + (1 : Int32))), .val (.int p2)] [(.int p1), (.ref a1)])) (fun t k => XS.iinc X0.here hx rfl (hb hby d1_15) rfl (l' := #[.val (.ref a1), .val (.int p1), .val (.int p2), .val (.int (p1 + (1 : Int32))), .val (.int p2)]) rfl k) ?_
    refine go _ (s₁.setTop (mkF m 20 #[.val (.ref a1), .val (.int p1), .val (.int p2), .val (.int (p1 + (1 : Int32))), .val (.int p2)] [(.int p2), (.int p1), (.ref a1)])) (fun t k => XS.iload X0.here hx rfl (hb hby d1_18) rfl k) ?_
    refine go _ (s₁.setTop (mkF m 23 #[.val (.ref a1), .val (.int p1), .val (.int p2), .val (.int (p1 + (1 : Int32))), .val (.int p2)] [(.int (128 : Int32)), (.int p2), (.int p1), (.ref a1)])) (fun t k => XS.sipush X0.here hx rfl (hb hby d1_20) k) ?_
    refine go _ (s₁.setTop (mkF m 24 #[.val (.ref a1), .val (.int p1), .val (.int p2), .val (.int (p1 + (1 : Int32))), .val (.int p2)] [(.int (p2 ||| (128 : Int32))), (.int p1), (.ref a1)])) (fun t k => XS.ior X0.here hx rfl (hb hby d1_23) rfl k) ?_
    refine go _ (s₁.setTop (mkF m 25 #[.val (.ref a1), .val (.int p1), .val (.int p2), .val (.int (p1 + (1 : Int32))), .val (.int p2)] [(.int (jb (p2 ||| (128 : Int32)))), (.int p1), (.ref a1)])) (fun t k => XS.i2b X0.here hx rfl (hb hby d1_24) rfl k) ?_
    obtain ⟨T6, h6, X6, e6, W6, A6, st6⟩ := own_stB X0 hx hZ e0 A0 (i := i) hj0 (by omega) (own_narb (p2 ||| (128 : Int32))) (g := (mkF m 25 #[.val (.ref a1), .val (.int p1), .val (.int p2), .val (.int (p1 + (1 : Int32))), .val (.int p2)] [(.int (jb (p2 ||| (128 : Int32)))), (.int p1), (.ref a1)])) rfl rfl (hb hby d1_25)
    have Z7 : n0 ≤ h6.size := by rw [W6.size]; exact Z0
    have N8 := Fr.snoc X6 N0 g0
    have K9 := K0.wr W6 (Or.inl (by simp))
    refine go _ (T6.setTop (mkF m 26 #[.val (.ref a1), .val (.int p1), .val (.int p2), .val (.int (p1 + (1 : Int32))), .val (.int p2)] [])) (st6) ?_
    refine go _ (T6.setTop (mkF m 28 #[.val (.ref a1), .val (.int p1), .val (.int p2), .val (.int (p1 + (1 : Int32))), .val (.int p2)] [(.int p2)])) (fun t k => XS.iload X6.here hx rfl (hb hby d1_26) rfl k) ?_
    refine go _ (T6.setTop (mkF m 30 #[.val (.ref a1), .val (.int p1), .val (.int p2), .val (.int (p1 + (1 : Int32))), .val (.int p2)] [(.int (7 : Int32)), (.int p2)])) (fun t k => XS.bipush X6.here hx rfl (hb hby d1_28) k) ?_
    refine go _ (T6.setTop (mkF m 31 #[.val (.ref a1), .val (.int p1), .val (.int p2), .val (.int (p1 + (1 : Int32))), .val (.int p2)] [(.int (jushr p2 (7 : Int32)))])) (fun t k => XS.iushr X6.here hx rfl (hb hby d1_30) rfl k) ?_
    refine go _ (T6.setTop (mkF m 33 #[.val (.ref a1), .val (.int p1), .val (.int p2), .val (.int (p1 + (1 : Int32))), .val (.int (jushr p2 (7 : Int32)))] [])) (fun t k => XS.istore X6.here hx rfl (hb hby d1_31) rfl (l' := #[.val (.ref a1), .val (.int p1), .val (.int p2), .val (.int (p1 + (1 : Int32))), .val (.int (jushr p2 (7 : Int32)))]) rfl k) ?_
    refine go _ (T6.setTop (mkF m 5 #[.val (.ref a1), .val (.int p1), .val (.int p2), .val (.int (p1 + (1 : Int32))), .val (.int (jushr p2 (7 : Int32)))] [])) (fun t k => XS.goto X6.here hx rfl (pc0 := 33) (pc' := 5) rfl (hb hby d1_33) (by decide) (by decide) k) ?_
    refine go _ (T6.setTop (mkF m 7 #[.val (.ref a1), .val (.int p1), .val (.int p2), .val (.int (p1 + (1 : Int32))), .val (.int (jushr p2 (7 : Int32)))] [(.int (jushr p2 (7 : Int32)))])) (fun t k => XS.iload X6.here hx rfl (hb hby d1_5) rfl k) ?_
    refine go _ (T6.setTop (mkF m 10 #[.val (.ref a1), .val (.int p1), .val (.int p2), .val (.int (p1 + (1 : Int32))), .val (.int (jushr p2 (7 : Int32)))] [(.int (128 : Int32)), (.int (jushr p2 (7 : Int32)))])) (fun t k => XS.sipush X6.here hx rfl (hb hby d1_7) k) ?_
    by_cases hc10 : (jushr p2 (7 : Int32)) < (128 : Int32)
    · refine go _ (T6.setTop (mkF m 36 #[.val (.ref a1), .val (.int p1), .val (.int p2), .val (.int (p1 + (1 : Int32))), .val (.int (jushr p2 (7 : Int32)))] [])) (fun t k => XS.icmpYes X6.here hx rfl (pc0 := 10) (pc' := 36) rfl (hb hby d1_10) rfl (tlt hc10).1 (by decide) (by decide) k) ?_
      refine go _ (T6.setTop (mkF m 37 #[.val (.ref a1), .val (.int p1), .val (.int p2), .val (.int (p1 + (1 : Int32))), .val (.int (jushr p2 (7 : Int32)))] [(.ref a1)])) (fun t k => XS.aloadN X6.here hx rfl (hb hby d1_36) rfl rfl k) ?_
      refine go _ (T6.setTop (mkF m 38 #[.val (.ref a1), .val (.int p1), .val (.int p2), .val (.int (p1 + (1 : Int32))), .val (.int (jushr p2 (7 : Int32)))] [(.int (p1 + (1 : Int32))), (.ref a1)])) (fun t k => XS.iloadN X6.here hx rfl (hb hby d1_37) rfl k) ?_
      refine go _ (T6.setTop (mkF m 41 #[.val (.ref a1), .val (.int p1), .val (.int p2), .val (.int ((p1 + (1 : Int32)) + (1 : Int32))), .val (.int (jushr p2 (7 : Int32)))] [(.int (p1 + (1 : Int32))), (.ref a1)])) (fun t k => XS.iinc X6.here hx rfl (hb hby d1_38) rfl (l' := #[.val (.ref a1), .val (.int p1), .val (.int p2), .val (.int ((p1 + (1 : Int32)) + (1 : Int32))), .val (.int (jushr p2 (7 : Int32)))]) rfl k) ?_
      refine go _ (T6.setTop (mkF m 43 #[.val (.ref a1), .val (.int p1), .val (.int p2), .val (.int ((p1 + (1 : Int32)) + (1 : Int32))), .val (.int (jushr p2 (7 : Int32)))] [(.int (jushr p2 (7 : Int32))), (.int (p1 + (1 : Int32))), (.ref a1)])) (fun t k => XS.iload X6.here hx rfl (hb hby d1_41) rfl k) ?_
      refine go _ (T6.setTop (mkF m 44 #[.val (.ref a1), .val (.int p1), .val (.int p2), .val (.int ((p1 + (1 : Int32)) + (1 : Int32))), .val (.int (jushr p2 (7 : Int32)))] [(.int (jb (jushr p2 (7 : Int32)))), (.int (p1 + (1 : Int32))), (.ref a1)])) (fun t k => XS.i2b X6.here hx rfl (hb hby d1_43) rfl k) ?_
      obtain ⟨T11, h11, X11, e11, W11, A11, st11⟩ := own_stB X6 hx hZ e6 A6 (i := (i + 1)) hj1 (by omega) (own_narb (jushr p2 (7 : Int32))) (g := (mkF m 44 #[.val (.ref a1), .val (.int p1), .val (.int p2), .val (.int ((p1 + (1 : Int32)) + (1 : Int32))), .val (.int (jushr p2 (7 : Int32)))] [(.int (jb (jushr p2 (7 : Int32)))), (.int (p1 + (1 : Int32))), (.ref a1)])) rfl rfl (hb hby d1_44)
      have Z12 : n0 ≤ h11.size := by rw [W11.size]; exact Z7
      have N13 := Fr.snoc X11 N8 g0
      have K14 := K9.wr W11 (Or.inl (by simp))
      refine go _ (T11.setTop (mkF m 45 #[.val (.ref a1), .val (.int p1), .val (.int p2), .val (.int ((p1 + (1 : Int32)) + (1 : Int32))), .val (.int (jushr p2 (7 : Int32)))] [])) (st11) ?_
      refine go _ (T11.setTop (mkF m 46 #[.val (.ref a1), .val (.int p1), .val (.int p2), .val (.int ((p1 + (1 : Int32)) + (1 : Int32))), .val (.int (jushr p2 (7 : Int32)))] [(.int ((p1 + (1 : Int32)) + (1 : Int32)))])) (fun t k => XS.iloadN X11.here hx rfl (hb hby d1_45) rfl k) ?_
      exact fin (some (.int ((p1 + (1 : Int32)) + (1 : Int32)))) X11 (by decide) (by decide) (fun q => by cases q) (show Q_rm1 Z a1 p1 p2 f n i h0 n0 _ T11.heap _ from (by rw [e11]; exact ⟨congrArg some (congrArg Value.int (show ((p1 + (1 : Int32)) + (1 : Int32)) = own_end p1 p2 from (by unfold own_end; rw [if_neg hc1, if_pos hc10]))), N13, K14, (by unfold own_wr; rw [if_neg hc1, if_pos hc10]; exact A11)⟩)) (fun fs hr => retI X11 hx hret (hb hby d1_46) hr)
    · refine go _ (T6.setTop (mkF m 13 #[.val (.ref a1), .val (.int p1), .val (.int p2), .val (.int (p1 + (1 : Int32))), .val (.int (jushr p2 (7 : Int32)))] [])) (fun t k => XS.icmpNo X6.here hx rfl (hb hby d1_10) rfl (flt hc10).1 k) ?_
      refine go _ (T6.setTop (mkF m 14 #[.val (.ref a1), .val (.int p1), .val (.int p2), .val (.int (p1 + (1 : Int32))), .val (.int (jushr p2 (7 : Int32)))] [(.ref a1)])) (fun t k => XS.aloadN X6.here hx rfl (hb hby d1_13) rfl rfl k) ?_
      refine go _ (T6.setTop (mkF m 15 #[.val (.ref a1), .val (.int p1), .val (.int p2), .val (.int (p1 + (1 : Int32))), .val (.int (jushr p2 (7 : Int32)))] [(.int (p1 + (1 : Int32))), (.ref a1)])) (fun t k => XS.iloadN X6.here hx rfl (hb hby d1_14) rfl k) ?_
      refine go _ (T6.setTop (mkF m 18 #[.val (.ref a1), .val (.int p1), .val (.int p2), .val (.int ((p1 + (1 : Int32)) + (1 : Int32))), .val (.int (jushr p2 (7 : Int32)))] [(.int (p1 + (1 : Int32))), (.ref a1)])) (fun t k => XS.iinc X6.here hx rfl (hb hby d1_15) rfl (l' := #[.val (.ref a1), .val (.int p1), .val (.int p2), .val (.int ((p1 + (1 : Int32)) + (1 : Int32))), .val (.int (jushr p2 (7 : Int32)))]) rfl k) ?_
      refine go _ (T6.setTop (mkF m 20 #[.val (.ref a1), .val (.int p1), .val (.int p2), .val (.int ((p1 + (1 : Int32)) + (1 : Int32))), .val (.int (jushr p2 (7 : Int32)))] [(.int (jushr p2 (7 : Int32))), (.int (p1 + (1 : Int32))), (.ref a1)])) (fun t k => XS.iload X6.here hx rfl (hb hby d1_18) rfl k) ?_
      refine go _ (T6.setTop (mkF m 23 #[.val (.ref a1), .val (.int p1), .val (.int p2), .val (.int ((p1 + (1 : Int32)) + (1 : Int32))), .val (.int (jushr p2 (7 : Int32)))] [(.int (128 : Int32)), (.int (jushr p2 (7 : Int32))), (.int (p1 + (1 : Int32))), (.ref a1)])) (fun t k => XS.sipush X6.here hx rfl (hb hby d1_20) k) ?_
      refine go _ (T6.setTop (mkF m 24 #[.val (.ref a1), .val (.int p1), .val (.int p2), .val (.int ((p1 + (1 : Int32)) + (1 : Int32))), .val (.int (jushr p2 (7 : Int32)))] [(.int ((jushr p2 (7 : Int32)) ||| (128 : Int32))), (.int (p1 + (1 : Int32))), (.ref a1)])) (fun t k => XS.ior X6.here hx rfl (hb hby d1_23) rfl k) ?_
      refine go _ (T6.setTop (mkF m 25 #[.val (.ref a1), .val (.int p1), .val (.int p2), .val (.int ((p1 + (1 : Int32)) + (1 : Int32))), .val (.int (jushr p2 (7 : Int32)))] [(.int (jb ((jushr p2 (7 : Int32)) ||| (128 : Int32)))), (.int (p1 + (1 : Int32))), (.ref a1)])) (fun t k => XS.i2b X6.here hx rfl (hb hby d1_24) rfl k) ?_
      obtain ⟨T15, h15, X15, e15, W15, A15, st15⟩ := own_stB X6 hx hZ e6 A6 (i := (i + 1)) hj1 (by omega) (own_narb ((jushr p2 (7 : Int32)) ||| (128 : Int32))) (g := (mkF m 25 #[.val (.ref a1), .val (.int p1), .val (.int p2), .val (.int ((p1 + (1 : Int32)) + (1 : Int32))), .val (.int (jushr p2 (7 : Int32)))] [(.int (jb ((jushr p2 (7 : Int32)) ||| (128 : Int32)))), (.int (p1 + (1 : Int32))), (.ref a1)])) rfl rfl (hb hby d1_25)
      have Z16 : n0 ≤ h15.size := by rw [W15.size]; exact Z7
      have N17 := Fr.snoc X15 N8 g0
      have K18 := K9.wr W15 (Or.inl (by simp))
      refine go _ (T15.setTop (mkF m 26 #[.val (.ref a1), .val (.int p1), .val (.int p2), .val (.int ((p1 + (1 : Int32)) + (1 : Int32))), .val (.int (jushr p2 (7 : Int32)))] [])) (st15) ?_
      refine go _ (T15.setTop (mkF m 28 #[.val (.ref a1), .val (.int p1), .val (.int p2), .val (.int ((p1 + (1 : Int32)) + (1 : Int32))), .val (.int (jushr p2 (7 : Int32)))] [(.int (jushr p2 (7 : Int32)))])) (fun t k => XS.iload X15.here hx rfl (hb hby d1_26) rfl k) ?_
      refine go _ (T15.setTop (mkF m 30 #[.val (.ref a1), .val (.int p1), .val (.int p2), .val (.int ((p1 + (1 : Int32)) + (1 : Int32))), .val (.int (jushr p2 (7 : Int32)))] [(.int (7 : Int32)), (.int (jushr p2 (7 : Int32)))])) (fun t k => XS.bipush X15.here hx rfl (hb hby d1_28) k) ?_
      refine go _ (T15.setTop (mkF m 31 #[.val (.ref a1), .val (.int p1), .val (.int p2), .val (.int ((p1 + (1 : Int32)) + (1 : Int32))), .val (.int (jushr p2 (7 : Int32)))] [(.int (jushr (jushr p2 (7 : Int32)) (7 : Int32)))])) (fun t k => XS.iushr X15.here hx rfl (hb hby d1_30) rfl k) ?_
      refine go _ (T15.setTop (mkF m 33 #[.val (.ref a1), .val (.int p1), .val (.int p2), .val (.int ((p1 + (1 : Int32)) + (1 : Int32))), .val (.int (jushr (jushr p2 (7 : Int32)) (7 : Int32)))] [])) (fun t k => XS.istore X15.here hx rfl (hb hby d1_31) rfl (l' := #[.val (.ref a1), .val (.int p1), .val (.int p2), .val (.int ((p1 + (1 : Int32)) + (1 : Int32))), .val (.int (jushr (jushr p2 (7 : Int32)) (7 : Int32)))]) rfl k) ?_
      refine go _ (T15.setTop (mkF m 5 #[.val (.ref a1), .val (.int p1), .val (.int p2), .val (.int ((p1 + (1 : Int32)) + (1 : Int32))), .val (.int (jushr (jushr p2 (7 : Int32)) (7 : Int32)))] [])) (fun t k => XS.goto X15.here hx rfl (pc0 := 33) (pc' := 5) rfl (hb hby d1_33) (by decide) (by decide) k) ?_
      refine go _ (T15.setTop (mkF m 7 #[.val (.ref a1), .val (.int p1), .val (.int p2), .val (.int ((p1 + (1 : Int32)) + (1 : Int32))), .val (.int (jushr (jushr p2 (7 : Int32)) (7 : Int32)))] [(.int (jushr (jushr p2 (7 : Int32)) (7 : Int32)))])) (fun t k => XS.iload X15.here hx rfl (hb hby d1_5) rfl k) ?_
      refine go _ (T15.setTop (mkF m 10 #[.val (.ref a1), .val (.int p1), .val (.int p2), .val (.int ((p1 + (1 : Int32)) + (1 : Int32))), .val (.int (jushr (jushr p2 (7 : Int32)) (7 : Int32)))] [(.int (128 : Int32)), (.int (jushr (jushr p2 (7 : Int32)) (7 : Int32)))])) (fun t k => XS.sipush X15.here hx rfl (hb hby d1_7) k) ?_
      by_cases hc19 : (jushr (jushr p2 (7 : Int32)) (7 : Int32)) < (128 : Int32)
      · refine go _ (T15.setTop (mkF m 36 #[.val (.ref a1), .val (.int p1), .val (.int p2), .val (.int ((p1 + (1 : Int32)) + (1 : Int32))), .val (.int (jushr (jushr p2 (7 : Int32)) (7 : Int32)))] [])) (fun t k => XS.icmpYes X15.here hx rfl (pc0 := 10) (pc' := 36) rfl (hb hby d1_10) rfl (tlt hc19).1 (by decide) (by decide) k) ?_
        refine go _ (T15.setTop (mkF m 37 #[.val (.ref a1), .val (.int p1), .val (.int p2), .val (.int ((p1 + (1 : Int32)) + (1 : Int32))), .val (.int (jushr (jushr p2 (7 : Int32)) (7 : Int32)))] [(.ref a1)])) (fun t k => XS.aloadN X15.here hx rfl (hb hby d1_36) rfl rfl k) ?_
        refine go _ (T15.setTop (mkF m 38 #[.val (.ref a1), .val (.int p1), .val (.int p2), .val (.int ((p1 + (1 : Int32)) + (1 : Int32))), .val (.int (jushr (jushr p2 (7 : Int32)) (7 : Int32)))] [(.int ((p1 + (1 : Int32)) + (1 : Int32))), (.ref a1)])) (fun t k => XS.iloadN X15.here hx rfl (hb hby d1_37) rfl k) ?_
        refine go _ (T15.setTop (mkF m 41 #[.val (.ref a1), .val (.int p1), .val (.int p2), .val (.int (((p1 + (1 : Int32)) + (1 : Int32)) + (1 : Int32))), .val (.int (jushr (jushr p2 (7 : Int32)) (7 : Int32)))] [(.int ((p1 + (1 : Int32)) + (1 : Int32))), (.ref a1)])) (fun t k => XS.iinc X15.here hx rfl (hb hby d1_38) rfl (l' := #[.val (.ref a1), .val (.int p1), .val (.int p2), .val (.int (((p1 + (1 : Int32)) + (1 : Int32)) + (1 : Int32))), .val (.int (jushr (jushr p2 (7 : Int32)) (7 : Int32)))]) rfl k) ?_
        refine go _ (T15.setTop (mkF m 43 #[.val (.ref a1), .val (.int p1), .val (.int p2), .val (.int (((p1 + (1 : Int32)) + (1 : Int32)) + (1 : Int32))), .val (.int (jushr (jushr p2 (7 : Int32)) (7 : Int32)))] [(.int (jushr (jushr p2 (7 : Int32)) (7 : Int32))), (.int ((p1 + (1 : Int32)) + (1 : Int32))), (.ref a1)])) (fun t k => XS.iload X15.here hx rfl (hb hby d1_41) rfl k) ?_
        refine go _ (T15.setTop (mkF m 44 #[.val (.ref a1), .val (.int p1), .val (.int p2), .val (.int (((p1 + (1 : Int32)) + (1 : Int32)) + (1 : Int32))), .val (.int (jushr (jushr p2 (7 : Int32)) (7 : Int32)))] [(.int (jb (jushr (jushr p2 (7 : Int32)) (7 : Int32)))), (.int ((p1 + (1 : Int32)) + (1 : Int32))), (.ref a1)])) (fun t k => XS.i2b X15.here hx rfl (hb hby d1_43) rfl k) ?_
        obtain ⟨T20, h20, X20, e20, W20, A20, st20⟩ := own_stB X15 hx hZ e15 A15 (i := (i + 2)) hj2 (by omega) (own_narb (jushr (jushr p2 (7 : Int32)) (7 : Int32))) (g := (mkF m 44 #[.val (.ref a1), .val (.int p1), .val (.int p2), .val (.int (((p1 + (1 : Int32)) + (1 : Int32)) + (1 : Int32))), .val (.int (jushr (jushr p2 (7 : Int32)) (7 : Int32)))] [(.int (jb (jushr (jushr p2 (7 : Int32)) (7 : Int32)))), (.int ((p1 + (1 : Int32)) + (1 : Int32))), (.ref a1)])) rfl rfl (hb hby d1_44)
        have Z21 : n0 ≤ h20.size := by rw [W20.size]; exact Z16
        have N22 := Fr.snoc X20 N17 g0
        have K23 := K18.wr W20 (Or.inl (by simp))
        refine go _ (T20.setTop (mkF m 45 #[.val (.ref a1), .val (.int p1), .val (.int p2), .val (.int (((p1 + (1 : Int32)) + (1 : Int32)) + (1 : Int32))), .val (.int (jushr (jushr p2 (7 : Int32)) (7 : Int32)))] [])) (st20) ?_
        refine go _ (T20.setTop (mkF m 46 #[.val (.ref a1), .val (.int p1), .val (.int p2), .val (.int (((p1 + (1 : Int32)) + (1 : Int32)) + (1 : Int32))), .val (.int (jushr (jushr p2 (7 : Int32)) (7 : Int32)))] [(.int (((p1 + (1 : Int32)) + (1 : Int32)) + (1 : Int32)))])) (fun t k => XS.iloadN X20.here hx rfl (hb hby d1_45) rfl k) ?_
        exact fin (some (.int (((p1 + (1 : Int32)) + (1 : Int32)) + (1 : Int32)))) X20 (by decide) (by decide) (fun q => by cases q) (show Q_rm1 Z a1 p1 p2 f n i h0 n0 _ T20.heap _ from (by rw [e20]; exact ⟨congrArg some (congrArg Value.int (show (((p1 + (1 : Int32)) + (1 : Int32)) + (1 : Int32)) = own_end p1 p2 from (by unfold own_end; rw [if_neg hc1, if_neg hc10, if_pos hc19]))), N22, K23, (by unfold own_wr; rw [if_neg hc1, if_neg hc10, if_pos hc19]; exact A20)⟩)) (fun fs hr => retI X20 hx hret (hb hby d1_46) hr)
      · refine go _ (T15.setTop (mkF m 13 #[.val (.ref a1), .val (.int p1), .val (.int p2), .val (.int ((p1 + (1 : Int32)) + (1 : Int32))), .val (.int (jushr (jushr p2 (7 : Int32)) (7 : Int32)))] [])) (fun t k => XS.icmpNo X15.here hx rfl (hb hby d1_10) rfl (flt hc19).1 k) ?_
        refine go _ (T15.setTop (mkF m 14 #[.val (.ref a1), .val (.int p1), .val (.int p2), .val (.int ((p1 + (1 : Int32)) + (1 : Int32))), .val (.int (jushr (jushr p2 (7 : Int32)) (7 : Int32)))] [(.ref a1)])) (fun t k => XS.aloadN X15.here hx rfl (hb hby d1_13) rfl rfl k) ?_
        refine go _ (T15.setTop (mkF m 15 #[.val (.ref a1), .val (.int p1), .val (.int p2), .val (.int ((p1 + (1 : Int32)) + (1 : Int32))), .val (.int (jushr (jushr p2 (7 : Int32)) (7 : Int32)))] [(.int ((p1 + (1 : Int32)) + (1 : Int32))), (.ref a1)])) (fun t k => XS.iloadN X15.here hx rfl (hb hby d1_14) rfl k) ?_
        refine go _ (T15.setTop (mkF m 18 #[.val (.ref a1), .val (.int p1), .val (.int p2), .val (.int (((p1 + (1 : Int32)) + (1 : Int32)) + (1 : Int32))), .val (.int (jushr (jushr p2 (7 : Int32)) (7 : Int32)))] [(.int ((p1 + (1 : Int32)) + (1 : Int32))), (.ref a1)])) (fun t k => XS.iinc X15.here hx rfl (hb hby d1_15) rfl (l' := #[.val (.ref a1), .val (.int p1), .val (.int p2), .val (.int (((p1 + (1 : Int32)) + (1 : Int32)) + (1 : Int32))), .val (.int (jushr (jushr p2 (7 : Int32)) (7 : Int32)))]) rfl k) ?_
        refine go _ (T15.setTop (mkF m 20 #[.val (.ref a1), .val (.int p1), .val (.int p2), .val (.int (((p1 + (1 : Int32)) + (1 : Int32)) + (1 : Int32))), .val (.int (jushr (jushr p2 (7 : Int32)) (7 : Int32)))] [(.int (jushr (jushr p2 (7 : Int32)) (7 : Int32))), (.int ((p1 + (1 : Int32)) + (1 : Int32))), (.ref a1)])) (fun t k => XS.iload X15.here hx rfl (hb hby d1_18) rfl k) ?_
        refine go _ (T15.setTop (mkF m 23 #[.val (.ref a1), .val (.int p1), .val (.int p2), .val (.int (((p1 + (1 : Int32)) + (1 : Int32)) + (1 : Int32))), .val (.int (jushr (jushr p2 (7 : Int32)) (7 : Int32)))] [(.int (128 : Int32)), (.int (jushr (jushr p2 (7 : Int32)) (7 : Int32))), (.int ((p1 + (1 : Int32)) + (1 : Int32))), (.ref a1)])) (fun t k => XS.sipush X15.here hx rfl (hb hby d1_20) k) ?_
        refine go _ (T15.setTop (mkF m 24 #[.val (.ref a1), .val (.int p1), .val (.int p2), .val (.int (((p1 + (1 : Int32)) + (1 : Int32)) + (1 : Int32))), .val (.int (jushr (jushr p2 (7 : Int32)) (7 : Int32)))] [(.int ((jushr (jushr p2 (7 : Int32)) (7 : Int32)) ||| (128 : Int32))), (.int ((p1 + (1 : Int32)) + (1 : Int32))), (.ref a1)])) (fun t k => XS.ior X15.here hx rfl (hb hby d1_23) rfl k) ?_
        refine go _ (T15.setTop (mkF m 25 #[.val (.ref a1), .val (.int p1), .val (.int p2), .val (.int (((p1 + (1 : Int32)) + (1 : Int32)) + (1 : Int32))), .val (.int (jushr (jushr p2 (7 : Int32)) (7 : Int32)))] [(.int (jb ((jushr (jushr p2 (7 : Int32)) (7 : Int32)) ||| (128 : Int32)))), (.int ((p1 + (1 : Int32)) + (1 : Int32))), (.ref a1)])) (fun t k => XS.i2b X15.here hx rfl (hb hby d1_24) rfl k) ?_
        obtain ⟨T24, h24, X24, e24, W24, A24, st24⟩ := own_stB X15 hx hZ e15 A15 (i := (i + 2)) hj2 (by omega) (own_narb ((jushr (jushr p2 (7 : Int32)) (7 : Int32)) ||| (128 : Int32))) (g := (mkF m 25 #[.val (.ref a1), .val (.int p1), .val (.int p2), .val (.int (((p1 + (1 : Int32)) + (1 : Int32)) + (1 : Int32))), .val (.int (jushr (jushr p2 (7 : Int32)) (7 : Int32)))] [(.int (jb ((jushr (jushr p2 (7 : Int32)) (7 : Int32)) ||| (128 : Int32)))), (.int ((p1 + (1 : Int32)) + (1 : Int32))), (.ref a1)])) rfl rfl (hb hby d1_25)
        have Z25 : n0 ≤ h24.size := by rw [W24.size]; exact Z16
        have N26 := Fr.snoc X24 N17 g0
        have K27 := K18.wr W24 (Or.inl (by simp))
        refine go _ (T24.setTop (mkF m 26 #[.val (.ref a1), .val (.int p1), .val (.int p2), .val (.int (((p1 + (1 : Int32)) + (1 : Int32)) + (1 : Int32))), .val (.int (jushr (jushr p2 (7 : Int32)) (7 : Int32)))] [])) (st24) ?_
        refine go _ (T24.setTop (mkF m 28 #[.val (.ref a1), .val (.int p1), .val (.int p2), .val (.int (((p1 + (1 : Int32)) + (1 : Int32)) + (1 : Int32))), .val (.int (jushr (jushr p2 (7 : Int32)) (7 : Int32)))] [(.int (jushr (jushr p2 (7 : Int32)) (7 : Int32)))])) (fun t k => XS.iload X24.here hx rfl (hb hby d1_26) rfl k) ?_
        refine go _ (T24.setTop (mkF m 30 #[.val (.ref a1), .val (.int p1), .val (.int p2), .val (.int (((p1 + (1 : Int32)) + (1 : Int32)) + (1 : Int32))), .val (.int (jushr (jushr p2 (7 : Int32)) (7 : Int32)))] [(.int (7 : Int32)), (.int (jushr (jushr p2 (7 : Int32)) (7 : Int32)))])) (fun t k => XS.bipush X24.here hx rfl (hb hby d1_28) k) ?_
        refine go _ (T24.setTop (mkF m 31 #[.val (.ref a1), .val (.int p1), .val (.int p2), .val (.int (((p1 + (1 : Int32)) + (1 : Int32)) + (1 : Int32))), .val (.int (jushr (jushr p2 (7 : Int32)) (7 : Int32)))] [(.int (jushr (jushr (jushr p2 (7 : Int32)) (7 : Int32)) (7 : Int32)))])) (fun t k => XS.iushr X24.here hx rfl (hb hby d1_30) rfl k) ?_
        refine go _ (T24.setTop (mkF m 33 #[.val (.ref a1), .val (.int p1), .val (.int p2), .val (.int (((p1 + (1 : Int32)) + (1 : Int32)) + (1 : Int32))), .val (.int (jushr (jushr (jushr p2 (7 : Int32)) (7 : Int32)) (7 : Int32)))] [])) (fun t k => XS.istore X24.here hx rfl (hb hby d1_31) rfl (l' := #[.val (.ref a1), .val (.int p1), .val (.int p2), .val (.int (((p1 + (1 : Int32)) + (1 : Int32)) + (1 : Int32))), .val (.int (jushr (jushr (jushr p2 (7 : Int32)) (7 : Int32)) (7 : Int32)))]) rfl k) ?_
        refine go _ (T24.setTop (mkF m 5 #[.val (.ref a1), .val (.int p1), .val (.int p2), .val (.int (((p1 + (1 : Int32)) + (1 : Int32)) + (1 : Int32))), .val (.int (jushr (jushr (jushr p2 (7 : Int32)) (7 : Int32)) (7 : Int32)))] [])) (fun t k => XS.goto X24.here hx rfl (pc0 := 33) (pc' := 5) rfl (hb hby d1_33) (by decide) (by decide) k) ?_
        refine go _ (T24.setTop (mkF m 7 #[.val (.ref a1), .val (.int p1), .val (.int p2), .val (.int (((p1 + (1 : Int32)) + (1 : Int32)) + (1 : Int32))), .val (.int (jushr (jushr (jushr p2 (7 : Int32)) (7 : Int32)) (7 : Int32)))] [(.int (jushr (jushr (jushr p2 (7 : Int32)) (7 : Int32)) (7 : Int32)))])) (fun t k => XS.iload X24.here hx rfl (hb hby d1_5) rfl k) ?_
        refine go _ (T24.setTop (mkF m 10 #[.val (.ref a1), .val (.int p1), .val (.int p2), .val (.int (((p1 + (1 : Int32)) + (1 : Int32)) + (1 : Int32))), .val (.int (jushr (jushr (jushr p2 (7 : Int32)) (7 : Int32)) (7 : Int32)))] [(.int (128 : Int32)), (.int (jushr (jushr (jushr p2 (7 : Int32)) (7 : Int32)) (7 : Int32)))])) (fun t k => XS.sipush X24.here hx rfl (hb hby d1_7) k) ?_
        by_cases hc28 : (jushr (jushr (jushr p2 (7 : Int32)) (7 : Int32)) (7 : Int32)) < (128 : Int32)
        · refine go _ (T24.setTop (mkF m 36 #[.val (.ref a1), .val (.int p1), .val (.int p2), .val (.int (((p1 + (1 : Int32)) + (1 : Int32)) + (1 : Int32))), .val (.int (jushr (jushr (jushr p2 (7 : Int32)) (7 : Int32)) (7 : Int32)))] [])) (fun t k => XS.icmpYes X24.here hx rfl (pc0 := 10) (pc' := 36) rfl (hb hby d1_10) rfl (tlt hc28).1 (by decide) (by decide) k) ?_
          refine go _ (T24.setTop (mkF m 37 #[.val (.ref a1), .val (.int p1), .val (.int p2), .val (.int (((p1 + (1 : Int32)) + (1 : Int32)) + (1 : Int32))), .val (.int (jushr (jushr (jushr p2 (7 : Int32)) (7 : Int32)) (7 : Int32)))] [(.ref a1)])) (fun t k => XS.aloadN X24.here hx rfl (hb hby d1_36) rfl rfl k) ?_
          refine go _ (T24.setTop (mkF m 38 #[.val (.ref a1), .val (.int p1), .val (.int p2), .val (.int (((p1 + (1 : Int32)) + (1 : Int32)) + (1 : Int32))), .val (.int (jushr (jushr (jushr p2 (7 : Int32)) (7 : Int32)) (7 : Int32)))] [(.int (((p1 + (1 : Int32)) + (1 : Int32)) + (1 : Int32))), (.ref a1)])) (fun t k => XS.iloadN X24.here hx rfl (hb hby d1_37) rfl k) ?_
          refine go _ (T24.setTop (mkF m 41 #[.val (.ref a1), .val (.int p1), .val (.int p2), .val (.int ((((p1 + (1 : Int32)) + (1 : Int32)) + (1 : Int32)) + (1 : Int32))), .val (.int (jushr (jushr (jushr p2 (7 : Int32)) (7 : Int32)) (7 : Int32)))] [(.int (((p1 + (1 : Int32)) + (1 : Int32)) + (1 : Int32))), (.ref a1)])) (fun t k => XS.iinc X24.here hx rfl (hb hby d1_38) rfl (l' := #[.val (.ref a1), .val (.int p1), .val (.int p2), .val (.int ((((p1 + (1 : Int32)) + (1 : Int32)) + (1 : Int32)) + (1 : Int32))), .val (.int (jushr (jushr (jushr p2 (7 : Int32)) (7 : Int32)) (7 : Int32)))]) rfl k) ?_
          refine go _ (T24.setTop (mkF m 43 #[.val (.ref a1), .val (.int p1), .val (.int p2), .val (.int ((((p1 + (1 : Int32)) + (1 : Int32)) + (1 : Int32)) + (1 : Int32))), .val (.int (jushr (jushr (jushr p2 (7 : Int32)) (7 : Int32)) (7 : Int32)))] [(.int (jushr (jushr (jushr p2 (7 : Int32)) (7 : Int32)) (7 : Int32))), (.int (((p1 + (1 : Int32)) + (1 : Int32)) + (1 : Int32))), (.ref a1)])) (fun t k => XS.iload X24.here hx rfl (hb hby d1_41) rfl k) ?_
          refine go _ (T24.setTop (mkF m 44 #[.val (.ref a1), .val (.int p1), .val (.int p2), .val (.int ((((p1 + (1 : Int32)) + (1 : Int32)) + (1 : Int32)) + (1 : Int32))), .val (.int (jushr (jushr (jushr p2 (7 : Int32)) (7 : Int32)) (7 : Int32)))] [(.int (jb (jushr (jushr (jushr p2 (7 : Int32)) (7 : Int32)) (7 : Int32)))), (.int (((p1 + (1 : Int32)) + (1 : Int32)) + (1 : Int32))), (.ref a1)])) (fun t k => XS.i2b X24.here hx rfl (hb hby d1_43) rfl k) ?_
          obtain ⟨T29, h29, X29, e29, W29, A29, st29⟩ := own_stB X24 hx hZ e24 A24 (i := (i + 3)) hj3 (by omega) (own_narb (jushr (jushr (jushr p2 (7 : Int32)) (7 : Int32)) (7 : Int32))) (g := (mkF m 44 #[.val (.ref a1), .val (.int p1), .val (.int p2), .val (.int ((((p1 + (1 : Int32)) + (1 : Int32)) + (1 : Int32)) + (1 : Int32))), .val (.int (jushr (jushr (jushr p2 (7 : Int32)) (7 : Int32)) (7 : Int32)))] [(.int (jb (jushr (jushr (jushr p2 (7 : Int32)) (7 : Int32)) (7 : Int32)))), (.int (((p1 + (1 : Int32)) + (1 : Int32)) + (1 : Int32))), (.ref a1)])) rfl rfl (hb hby d1_44)
          have Z30 : n0 ≤ h29.size := by rw [W29.size]; exact Z25
          have N31 := Fr.snoc X29 N26 g0
          have K32 := K27.wr W29 (Or.inl (by simp))
          refine go _ (T29.setTop (mkF m 45 #[.val (.ref a1), .val (.int p1), .val (.int p2), .val (.int ((((p1 + (1 : Int32)) + (1 : Int32)) + (1 : Int32)) + (1 : Int32))), .val (.int (jushr (jushr (jushr p2 (7 : Int32)) (7 : Int32)) (7 : Int32)))] [])) (st29) ?_
          refine go _ (T29.setTop (mkF m 46 #[.val (.ref a1), .val (.int p1), .val (.int p2), .val (.int ((((p1 + (1 : Int32)) + (1 : Int32)) + (1 : Int32)) + (1 : Int32))), .val (.int (jushr (jushr (jushr p2 (7 : Int32)) (7 : Int32)) (7 : Int32)))] [(.int ((((p1 + (1 : Int32)) + (1 : Int32)) + (1 : Int32)) + (1 : Int32)))])) (fun t k => XS.iloadN X29.here hx rfl (hb hby d1_45) rfl k) ?_
          exact fin (some (.int ((((p1 + (1 : Int32)) + (1 : Int32)) + (1 : Int32)) + (1 : Int32)))) X29 (by decide) (by decide) (fun q => by cases q) (show Q_rm1 Z a1 p1 p2 f n i h0 n0 _ T29.heap _ from (by rw [e29]; exact ⟨congrArg some (congrArg Value.int (show ((((p1 + (1 : Int32)) + (1 : Int32)) + (1 : Int32)) + (1 : Int32)) = own_end p1 p2 from (by unfold own_end; rw [if_neg hc1, if_neg hc10, if_neg hc19, if_pos hc28]))), N31, K32, (by unfold own_wr; rw [if_neg hc1, if_neg hc10, if_neg hc19, if_pos hc28]; exact A29)⟩)) (fun fs hr => retI X29 hx hret (hb hby d1_46) hr)
        · refine go _ (T24.setTop (mkF m 13 #[.val (.ref a1), .val (.int p1), .val (.int p2), .val (.int (((p1 + (1 : Int32)) + (1 : Int32)) + (1 : Int32))), .val (.int (jushr (jushr (jushr p2 (7 : Int32)) (7 : Int32)) (7 : Int32)))] [])) (fun t k => XS.icmpNo X24.here hx rfl (hb hby d1_10) rfl (flt hc28).1 k) ?_
          refine go _ (T24.setTop (mkF m 14 #[.val (.ref a1), .val (.int p1), .val (.int p2), .val (.int (((p1 + (1 : Int32)) + (1 : Int32)) + (1 : Int32))), .val (.int (jushr (jushr (jushr p2 (7 : Int32)) (7 : Int32)) (7 : Int32)))] [(.ref a1)])) (fun t k => XS.aloadN X24.here hx rfl (hb hby d1_13) rfl rfl k) ?_
          refine go _ (T24.setTop (mkF m 15 #[.val (.ref a1), .val (.int p1), .val (.int p2), .val (.int (((p1 + (1 : Int32)) + (1 : Int32)) + (1 : Int32))), .val (.int (jushr (jushr (jushr p2 (7 : Int32)) (7 : Int32)) (7 : Int32)))] [(.int (((p1 + (1 : Int32)) + (1 : Int32)) + (1 : Int32))), (.ref a1)])) (fun t k => XS.iloadN X24.here hx rfl (hb hby d1_14) rfl k) ?_
          refine go _ (T24.setTop (mkF m 18 #[.val (.ref a1), .val (.int p1), .val (.int p2), .val (.int ((((p1 + (1 : Int32)) + (1 : Int32)) + (1 : Int32)) + (1 : Int32))), .val (.int (jushr (jushr (jushr p2 (7 : Int32)) (7 : Int32)) (7 : Int32)))] [(.int (((p1 + (1 : Int32)) + (1 : Int32)) + (1 : Int32))), (.ref a1)])) (fun t k => XS.iinc X24.here hx rfl (hb hby d1_15) rfl (l' := #[.val (.ref a1), .val (.int p1), .val (.int p2), .val (.int ((((p1 + (1 : Int32)) + (1 : Int32)) + (1 : Int32)) + (1 : Int32))), .val (.int (jushr (jushr (jushr p2 (7 : Int32)) (7 : Int32)) (7 : Int32)))]) rfl k) ?_
          refine go _ (T24.setTop (mkF m 20 #[.val (.ref a1), .val (.int p1), .val (.int p2), .val (.int ((((p1 + (1 : Int32)) + (1 : Int32)) + (1 : Int32)) + (1 : Int32))), .val (.int (jushr (jushr (jushr p2 (7 : Int32)) (7 : Int32)) (7 : Int32)))] [(.int (jushr (jushr (jushr p2 (7 : Int32)) (7 : Int32)) (7 : Int32))), (.int (((p1 + (1 : Int32)) + (1 : Int32)) + (1 : Int32))), (.ref a1)])) (fun t k => XS.iload X24.here hx rfl (hb hby d1_18) rfl k) ?_
          refine go _ (T24.setTop (mkF m 23 #[.val (.ref a1), .val (.int p1), .val (.int p2), .val (.int ((((p1 + (1 : Int32)) + (1 : Int32)) + (1 : Int32)) + (1 : Int32))), .val (.int (jushr (jushr (jushr p2 (7 : Int32)) (7 : Int32)) (7 : Int32)))] [(.int (128 : Int32)), (.int (jushr (jushr (jushr p2 (7 : Int32)) (7 : Int32)) (7 : Int32))), (.int (((p1 + (1 : Int32)) + (1 : Int32)) + (1 : Int32))), (.ref a1)])) (fun t k => XS.sipush X24.here hx rfl (hb hby d1_20) k) ?_
          refine go _ (T24.setTop (mkF m 24 #[.val (.ref a1), .val (.int p1), .val (.int p2), .val (.int ((((p1 + (1 : Int32)) + (1 : Int32)) + (1 : Int32)) + (1 : Int32))), .val (.int (jushr (jushr (jushr p2 (7 : Int32)) (7 : Int32)) (7 : Int32)))] [(.int ((jushr (jushr (jushr p2 (7 : Int32)) (7 : Int32)) (7 : Int32)) ||| (128 : Int32))), (.int (((p1 + (1 : Int32)) + (1 : Int32)) + (1 : Int32))), (.ref a1)])) (fun t k => XS.ior X24.here hx rfl (hb hby d1_23) rfl k) ?_
          refine go _ (T24.setTop (mkF m 25 #[.val (.ref a1), .val (.int p1), .val (.int p2), .val (.int ((((p1 + (1 : Int32)) + (1 : Int32)) + (1 : Int32)) + (1 : Int32))), .val (.int (jushr (jushr (jushr p2 (7 : Int32)) (7 : Int32)) (7 : Int32)))] [(.int (jb ((jushr (jushr (jushr p2 (7 : Int32)) (7 : Int32)) (7 : Int32)) ||| (128 : Int32)))), (.int (((p1 + (1 : Int32)) + (1 : Int32)) + (1 : Int32))), (.ref a1)])) (fun t k => XS.i2b X24.here hx rfl (hb hby d1_24) rfl k) ?_
          obtain ⟨T33, h33, X33, e33, W33, A33, st33⟩ := own_stB X24 hx hZ e24 A24 (i := (i + 3)) hj3 (by omega) (own_narb ((jushr (jushr (jushr p2 (7 : Int32)) (7 : Int32)) (7 : Int32)) ||| (128 : Int32))) (g := (mkF m 25 #[.val (.ref a1), .val (.int p1), .val (.int p2), .val (.int ((((p1 + (1 : Int32)) + (1 : Int32)) + (1 : Int32)) + (1 : Int32))), .val (.int (jushr (jushr (jushr p2 (7 : Int32)) (7 : Int32)) (7 : Int32)))] [(.int (jb ((jushr (jushr (jushr p2 (7 : Int32)) (7 : Int32)) (7 : Int32)) ||| (128 : Int32)))), (.int (((p1 + (1 : Int32)) + (1 : Int32)) + (1 : Int32))), (.ref a1)])) rfl rfl (hb hby d1_25)
          have Z34 : n0 ≤ h33.size := by rw [W33.size]; exact Z25
          have N35 := Fr.snoc X33 N26 g0
          have K36 := K27.wr W33 (Or.inl (by simp))
          refine go _ (T33.setTop (mkF m 26 #[.val (.ref a1), .val (.int p1), .val (.int p2), .val (.int ((((p1 + (1 : Int32)) + (1 : Int32)) + (1 : Int32)) + (1 : Int32))), .val (.int (jushr (jushr (jushr p2 (7 : Int32)) (7 : Int32)) (7 : Int32)))] [])) (st33) ?_
          refine go _ (T33.setTop (mkF m 28 #[.val (.ref a1), .val (.int p1), .val (.int p2), .val (.int ((((p1 + (1 : Int32)) + (1 : Int32)) + (1 : Int32)) + (1 : Int32))), .val (.int (jushr (jushr (jushr p2 (7 : Int32)) (7 : Int32)) (7 : Int32)))] [(.int (jushr (jushr (jushr p2 (7 : Int32)) (7 : Int32)) (7 : Int32)))])) (fun t k => XS.iload X33.here hx rfl (hb hby d1_26) rfl k) ?_
          refine go _ (T33.setTop (mkF m 30 #[.val (.ref a1), .val (.int p1), .val (.int p2), .val (.int ((((p1 + (1 : Int32)) + (1 : Int32)) + (1 : Int32)) + (1 : Int32))), .val (.int (jushr (jushr (jushr p2 (7 : Int32)) (7 : Int32)) (7 : Int32)))] [(.int (7 : Int32)), (.int (jushr (jushr (jushr p2 (7 : Int32)) (7 : Int32)) (7 : Int32)))])) (fun t k => XS.bipush X33.here hx rfl (hb hby d1_28) k) ?_
          refine go _ (T33.setTop (mkF m 31 #[.val (.ref a1), .val (.int p1), .val (.int p2), .val (.int ((((p1 + (1 : Int32)) + (1 : Int32)) + (1 : Int32)) + (1 : Int32))), .val (.int (jushr (jushr (jushr p2 (7 : Int32)) (7 : Int32)) (7 : Int32)))] [(.int (jushr (jushr (jushr (jushr p2 (7 : Int32)) (7 : Int32)) (7 : Int32)) (7 : Int32)))])) (fun t k => XS.iushr X33.here hx rfl (hb hby d1_30) rfl k) ?_
          refine go _ (T33.setTop (mkF m 33 #[.val (.ref a1), .val (.int p1), .val (.int p2), .val (.int ((((p1 + (1 : Int32)) + (1 : Int32)) + (1 : Int32)) + (1 : Int32))), .val (.int (jushr (jushr (jushr (jushr p2 (7 : Int32)) (7 : Int32)) (7 : Int32)) (7 : Int32)))] [])) (fun t k => XS.istore X33.here hx rfl (hb hby d1_31) rfl (l' := #[.val (.ref a1), .val (.int p1), .val (.int p2), .val (.int ((((p1 + (1 : Int32)) + (1 : Int32)) + (1 : Int32)) + (1 : Int32))), .val (.int (jushr (jushr (jushr (jushr p2 (7 : Int32)) (7 : Int32)) (7 : Int32)) (7 : Int32)))]) rfl k) ?_
          refine go _ (T33.setTop (mkF m 5 #[.val (.ref a1), .val (.int p1), .val (.int p2), .val (.int ((((p1 + (1 : Int32)) + (1 : Int32)) + (1 : Int32)) + (1 : Int32))), .val (.int (jushr (jushr (jushr (jushr p2 (7 : Int32)) (7 : Int32)) (7 : Int32)) (7 : Int32)))] [])) (fun t k => XS.goto X33.here hx rfl (pc0 := 33) (pc' := 5) rfl (hb hby d1_33) (by decide) (by decide) k) ?_
          refine go _ (T33.setTop (mkF m 7 #[.val (.ref a1), .val (.int p1), .val (.int p2), .val (.int ((((p1 + (1 : Int32)) + (1 : Int32)) + (1 : Int32)) + (1 : Int32))), .val (.int (jushr (jushr (jushr (jushr p2 (7 : Int32)) (7 : Int32)) (7 : Int32)) (7 : Int32)))] [(.int (jushr (jushr (jushr (jushr p2 (7 : Int32)) (7 : Int32)) (7 : Int32)) (7 : Int32)))])) (fun t k => XS.iload X33.here hx rfl (hb hby d1_5) rfl k) ?_
          refine go _ (T33.setTop (mkF m 10 #[.val (.ref a1), .val (.int p1), .val (.int p2), .val (.int ((((p1 + (1 : Int32)) + (1 : Int32)) + (1 : Int32)) + (1 : Int32))), .val (.int (jushr (jushr (jushr (jushr p2 (7 : Int32)) (7 : Int32)) (7 : Int32)) (7 : Int32)))] [(.int (128 : Int32)), (.int (jushr (jushr (jushr (jushr p2 (7 : Int32)) (7 : Int32)) (7 : Int32)) (7 : Int32)))])) (fun t k => XS.sipush X33.here hx rfl (hb hby d1_7) k) ?_
          have hc37 : ((jushr (jushr (jushr (jushr p2 (7 : Int32)) (7 : Int32)) (7 : Int32)) (7 : Int32)) < (128 : Int32)) := own_r4 p2 hp
          refine go _ (T33.setTop (mkF m 36 #[.val (.ref a1), .val (.int p1), .val (.int p2), .val (.int ((((p1 + (1 : Int32)) + (1 : Int32)) + (1 : Int32)) + (1 : Int32))), .val (.int (jushr (jushr (jushr (jushr p2 (7 : Int32)) (7 : Int32)) (7 : Int32)) (7 : Int32)))] [])) (fun t k => XS.icmpYes X33.here hx rfl (pc0 := 10) (pc' := 36) rfl (hb hby d1_10) rfl (tlt hc37).1 (by decide) (by decide) k) ?_
          refine go _ (T33.setTop (mkF m 37 #[.val (.ref a1), .val (.int p1), .val (.int p2), .val (.int ((((p1 + (1 : Int32)) + (1 : Int32)) + (1 : Int32)) + (1 : Int32))), .val (.int (jushr (jushr (jushr (jushr p2 (7 : Int32)) (7 : Int32)) (7 : Int32)) (7 : Int32)))] [(.ref a1)])) (fun t k => XS.aloadN X33.here hx rfl (hb hby d1_36) rfl rfl k) ?_
          refine go _ (T33.setTop (mkF m 38 #[.val (.ref a1), .val (.int p1), .val (.int p2), .val (.int ((((p1 + (1 : Int32)) + (1 : Int32)) + (1 : Int32)) + (1 : Int32))), .val (.int (jushr (jushr (jushr (jushr p2 (7 : Int32)) (7 : Int32)) (7 : Int32)) (7 : Int32)))] [(.int ((((p1 + (1 : Int32)) + (1 : Int32)) + (1 : Int32)) + (1 : Int32))), (.ref a1)])) (fun t k => XS.iloadN X33.here hx rfl (hb hby d1_37) rfl k) ?_
          refine go _ (T33.setTop (mkF m 41 #[.val (.ref a1), .val (.int p1), .val (.int p2), .val (.int (((((p1 + (1 : Int32)) + (1 : Int32)) + (1 : Int32)) + (1 : Int32)) + (1 : Int32))), .val (.int (jushr (jushr (jushr (jushr p2 (7 : Int32)) (7 : Int32)) (7 : Int32)) (7 : Int32)))] [(.int ((((p1 + (1 : Int32)) + (1 : Int32)) + (1 : Int32)) + (1 : Int32))), (.ref a1)])) (fun t k => XS.iinc X33.here hx rfl (hb hby d1_38) rfl (l' := #[.val (.ref a1), .val (.int p1), .val (.int p2), .val (.int (((((p1 + (1 : Int32)) + (1 : Int32)) + (1 : Int32)) + (1 : Int32)) + (1 : Int32))), .val (.int (jushr (jushr (jushr (jushr p2 (7 : Int32)) (7 : Int32)) (7 : Int32)) (7 : Int32)))]) rfl k) ?_
          refine go _ (T33.setTop (mkF m 43 #[.val (.ref a1), .val (.int p1), .val (.int p2), .val (.int (((((p1 + (1 : Int32)) + (1 : Int32)) + (1 : Int32)) + (1 : Int32)) + (1 : Int32))), .val (.int (jushr (jushr (jushr (jushr p2 (7 : Int32)) (7 : Int32)) (7 : Int32)) (7 : Int32)))] [(.int (jushr (jushr (jushr (jushr p2 (7 : Int32)) (7 : Int32)) (7 : Int32)) (7 : Int32))), (.int ((((p1 + (1 : Int32)) + (1 : Int32)) + (1 : Int32)) + (1 : Int32))), (.ref a1)])) (fun t k => XS.iload X33.here hx rfl (hb hby d1_41) rfl k) ?_
          refine go _ (T33.setTop (mkF m 44 #[.val (.ref a1), .val (.int p1), .val (.int p2), .val (.int (((((p1 + (1 : Int32)) + (1 : Int32)) + (1 : Int32)) + (1 : Int32)) + (1 : Int32))), .val (.int (jushr (jushr (jushr (jushr p2 (7 : Int32)) (7 : Int32)) (7 : Int32)) (7 : Int32)))] [(.int (jb (jushr (jushr (jushr (jushr p2 (7 : Int32)) (7 : Int32)) (7 : Int32)) (7 : Int32)))), (.int ((((p1 + (1 : Int32)) + (1 : Int32)) + (1 : Int32)) + (1 : Int32))), (.ref a1)])) (fun t k => XS.i2b X33.here hx rfl (hb hby d1_43) rfl k) ?_
          obtain ⟨T38, h38, X38, e38, W38, A38, st38⟩ := own_stB X33 hx hZ e33 A33 (i := (i + 4)) hj4 (by omega) (own_narb (jushr (jushr (jushr (jushr p2 (7 : Int32)) (7 : Int32)) (7 : Int32)) (7 : Int32))) (g := (mkF m 44 #[.val (.ref a1), .val (.int p1), .val (.int p2), .val (.int (((((p1 + (1 : Int32)) + (1 : Int32)) + (1 : Int32)) + (1 : Int32)) + (1 : Int32))), .val (.int (jushr (jushr (jushr (jushr p2 (7 : Int32)) (7 : Int32)) (7 : Int32)) (7 : Int32)))] [(.int (jb (jushr (jushr (jushr (jushr p2 (7 : Int32)) (7 : Int32)) (7 : Int32)) (7 : Int32)))), (.int ((((p1 + (1 : Int32)) + (1 : Int32)) + (1 : Int32)) + (1 : Int32))), (.ref a1)])) rfl rfl (hb hby d1_44)
          have Z39 : n0 ≤ h38.size := by rw [W38.size]; exact Z34
          have N40 := Fr.snoc X38 N35 g0
          have K41 := K36.wr W38 (Or.inl (by simp))
          refine go _ (T38.setTop (mkF m 45 #[.val (.ref a1), .val (.int p1), .val (.int p2), .val (.int (((((p1 + (1 : Int32)) + (1 : Int32)) + (1 : Int32)) + (1 : Int32)) + (1 : Int32))), .val (.int (jushr (jushr (jushr (jushr p2 (7 : Int32)) (7 : Int32)) (7 : Int32)) (7 : Int32)))] [])) (st38) ?_
          refine go _ (T38.setTop (mkF m 46 #[.val (.ref a1), .val (.int p1), .val (.int p2), .val (.int (((((p1 + (1 : Int32)) + (1 : Int32)) + (1 : Int32)) + (1 : Int32)) + (1 : Int32))), .val (.int (jushr (jushr (jushr (jushr p2 (7 : Int32)) (7 : Int32)) (7 : Int32)) (7 : Int32)))] [(.int (((((p1 + (1 : Int32)) + (1 : Int32)) + (1 : Int32)) + (1 : Int32)) + (1 : Int32)))])) (fun t k => XS.iloadN X38.here hx rfl (hb hby d1_45) rfl k) ?_
          exact fin (some (.int (((((p1 + (1 : Int32)) + (1 : Int32)) + (1 : Int32)) + (1 : Int32)) + (1 : Int32)))) X38 (by decide) (by decide) (fun q => by cases q) (show Q_rm1 Z a1 p1 p2 f n i h0 n0 _ T38.heap _ from (by rw [e38]; exact ⟨congrArg some (congrArg Value.int (show (((((p1 + (1 : Int32)) + (1 : Int32)) + (1 : Int32)) + (1 : Int32)) + (1 : Int32)) = own_end p1 p2 from (by unfold own_end; rw [if_neg hc1, if_neg hc10, if_neg hc19, if_neg hc28]))), N40, K41, (by unfold own_wr; rw [if_neg hc1, if_neg hc10, if_neg hc19, if_neg hc28]; exact A38)⟩)) (fun fs hr => retI X38 hx hret (hb hby d1_46) hr)
def own_rd (y0 y1 y2 y3 y4 : Int32) : Int32 := (if y0 < (0 : Int32) then (if y1 < (0 : Int32) then (if y2 < (0 : Int32) then (if y3 < (0 : Int32) then ((((((0 : Int32) ||| (jshl (y0 &&& (127 : Int32)) (0 : Int32))) ||| (jshl (y1 &&& (127 : Int32)) ((0 : Int32) + (7 : Int32)))) ||| (jshl (y2 &&& (127 : Int32)) (((0 : Int32) + (7 : Int32)) + (7 : Int32)))) ||| (jshl (y3 &&& (127 : Int32)) ((((0 : Int32) + (7 : Int32)) + (7 : Int32)) + (7 : Int32)))) ||| (jshl (y4 &&& (127 : Int32)) (((((0 : Int32) + (7 : Int32)) + (7 : Int32)) + (7 : Int32)) + (7 : Int32)))) else (((((0 : Int32) ||| (jshl (y0 &&& (127 : Int32)) (0 : Int32))) ||| (jshl (y1 &&& (127 : Int32)) ((0 : Int32) + (7 : Int32)))) ||| (jshl (y2 &&& (127 : Int32)) (((0 : Int32) + (7 : Int32)) + (7 : Int32)))) ||| (jshl (y3 &&& (127 : Int32)) ((((0 : Int32) + (7 : Int32)) + (7 : Int32)) + (7 : Int32))))) else ((((0 : Int32) ||| (jshl (y0 &&& (127 : Int32)) (0 : Int32))) ||| (jshl (y1 &&& (127 : Int32)) ((0 : Int32) + (7 : Int32)))) ||| (jshl (y2 &&& (127 : Int32)) (((0 : Int32) + (7 : Int32)) + (7 : Int32))))) else (((0 : Int32) ||| (jshl (y0 &&& (127 : Int32)) (0 : Int32))) ||| (jshl (y1 &&& (127 : Int32)) ((0 : Int32) + (7 : Int32))))) else ((0 : Int32) ||| (jshl (y0 &&& (127 : Int32)) (0 : Int32))))
theorem d2_0 : decode prog_34_method_3_code 0 = .ok (.iconst 0, 1) := by decide +kernel
theorem d2_1 : decode prog_34_method_3_code 1 = .ok (.istore_n 2, 1) := by decide +kernel
theorem d2_2 : decode prog_34_method_3_code 2 = .ok (.iconst 0, 1) := by decide +kernel
theorem d2_3 : decode prog_34_method_3_code 3 = .ok (.istore_n 3, 1) := by decide +kernel
theorem d2_4 : decode prog_34_method_3_code 4 = .ok (.iload_n 1, 1) := by decide +kernel
theorem d2_5 : decode prog_34_method_3_code 5 = .ok (.istore 4, 2) := by decide +kernel
theorem d2_7 : decode prog_34_method_3_code 7 = .ok (.aload_n 0, 1) := by decide +kernel
theorem d2_8 : decode prog_34_method_3_code 8 = .ok (.iload 4, 2) := by decide +kernel
theorem d2_10 : decode prog_34_method_3_code 10 = .ok (.iinc 4 1, 3) := by decide +kernel
theorem d2_13 : decode prog_34_method_3_code 13 = .ok (.baload, 1) := by decide +kernel
theorem d2_14 : decode prog_34_method_3_code 14 = .ok (.istore 5, 2) := by decide +kernel
theorem d2_16 : decode prog_34_method_3_code 16 = .ok (.iload_n 2, 1) := by decide +kernel
theorem d2_17 : decode prog_34_method_3_code 17 = .ok (.iload 5, 2) := by decide +kernel
theorem d2_19 : decode prog_34_method_3_code 19 = .ok (.bipush 127, 2) := by decide +kernel
theorem d2_21 : decode prog_34_method_3_code 21 = .ok (.iand, 1) := by decide +kernel
theorem d2_22 : decode prog_34_method_3_code 22 = .ok (.iload_n 3, 1) := by decide +kernel
theorem d2_23 : decode prog_34_method_3_code 23 = .ok (.ishl, 1) := by decide +kernel
theorem d2_24 : decode prog_34_method_3_code 24 = .ok (.ior, 1) := by decide +kernel
theorem d2_25 : decode prog_34_method_3_code 25 = .ok (.istore_n 2, 1) := by decide +kernel
theorem d2_26 : decode prog_34_method_3_code 26 = .ok (.iinc 3 7, 3) := by decide +kernel
theorem d2_29 : decode prog_34_method_3_code 29 = .ok (.iload 5, 2) := by decide +kernel
theorem d2_31 : decode prog_34_method_3_code 31 = .ok (.ifCond .lt (-24), 3) := by decide +kernel
theorem d2_34 : decode prog_34_method_3_code 34 = .ok (.iload_n 2, 1) := by decide +kernel
theorem d2_35 : decode prog_34_method_3_code 35 = .ok (.ireturn, 1) := by decide +kernel
theorem ef_rm2 (m : MethodId) (a1 : Addr) (p1 : Int32) : entryFrame m #[(.ref a1), (.int p1)] 6 = mkF m 0 #[.val (.ref a1), .val (.int p1), .unset, .unset, .unset, .unset] [] := by first | (simp [entryFrame, mkF, argsToLocals, Value.category]; done) | rfl
def Q_rm2 (Z : State) (a1 : Addr) (p1 : Int32) (f : Nat → Value) (n : Nat) (i : Nat) (y0 : Int32) (y1 : Int32) (y2 : Int32) (y3 : Int32) (y4 : Int32) (h0 : Heap) (n0 : Nat) (v : Option Value) (h : Heap) (L : List Loc) : Prop := v = some (.int (own_rd y0 y1 y2 y3 y4)) ∧ Fr n0 L ∧ h = h0
set_option maxRecDepth 65536 in
set_option maxHeartbeats 40000000 in
theorem rm2 (l : Launch) (Z : State) (a0 : Array Value) (hw : ∀ d ∈ tables_1, d.before a0 Z = true) (ws : List Jvm.Cond) (a1 : Addr) (p1 : Int32) (f : Nat → Value) (n : Nat) (i : Nat) (y0 : Int32) (y1 : Int32) (y2 : Int32) (y3 : Int32) (y4 : Int32) (h0 : Heap) (n0 : Nat) (Z0 : n0 ≤ h0.size) (A0 : AF Z h0 a1 .byte n f) (hj : p1.toInt = (i : Int)) (hi : i + 5 ≤ n) (hv0 : f i = .int y0) (hv1 : f (i + 1) = .int y1) (hv2 : f (i + 2) = .int y2) (hv3 : f (i + 3) = .int y3) (hv4 : f (i + 4) = .int y4) (ht : ¬ (y0 < (0 : Int32) ∧ y1 < (0 : Int32) ∧ y2 < (0 : Int32) ∧ y3 < (0 : Int32) ∧ y4 < (0 : Int32))) :
    MetFree l (⟨"com/example/keyspace_ledger/keyspaceledger/LengthPrefix", "read", "([BI)I"⟩ : MethodName) (head1 (Jvm.Cond.code (⟨"com/example/keyspace_ledger/keyspaceledger/LengthPrefix", "read", "([BI)I"⟩ : MethodName) prog_34_method_3_code 6 (some .int) :: ws) ({ frames := 0, cells := 0, slots := 0, locals := 0 } : Room)) (fun a U => a = #[(.ref a1), (.int p1)] ∧ Z.Warmed39 U.vm ∧ U.heap = h0) (fun _ _ _ _ _ => True) (fun _ U o U' => ∃ v L, o = .returned v ∧ Q_rm2 Z a1 p1 f n i y0 y1 y2 y3 y4 h0 n0 v U'.heap L ∧ FrameEnd U o U' L ({ frames := 0, cells := 0, slots := 0, locals := 0 } : Room).cells ({ frames := 0, cells := 0, slots := 0, locals := 0 } : Room).slots) := by
  refine own_body (Q := Q_rm2 Z a1 p1 f n i y0 y1 y2 y3 y4 h0 n0) (plainFor_of_name pn_4) ?_
  intro p e s m below meth c s₁ K go fin X0 hx hby hml hown hnm hret hZ e0
  have hown : s.vm.findClass "com/example/keyspace_ledger/keyspaceledger/LengthPrefix" = some m.cls := hown
  have N0 := Fr.nil n0
  refine go _ (s₁.setTop (mkF m 0 #[.val (.ref a1), .val (.int p1), .unset, .unset, .unset, .unset] [])) (fun t k => castTop (ef_rm2 m a1 p1) k) ?_
  have hn := A0.1
  have hj0 := hj
  have hj1 := own_succ hj0 (by omega)
  have hj2 := own_succ hj1 (by omega)
  have hj3 := own_succ hj2 (by omega)
  have hj4 := own_succ hj3 (by omega)
  refine go _ (s₁.setTop (mkF m 1 #[.val (.ref a1), .val (.int p1), .unset, .unset, .unset, .unset] [(.int (0 : Int32))])) (fun t k => XS.iconst X0.here hx rfl (hb hby d2_0) k) ?_
  refine go _ (s₁.setTop (mkF m 2 #[.val (.ref a1), .val (.int p1), .val (.int (0 : Int32)), .unset, .unset, .unset] [])) (fun t k => XS.istoreN X0.here hx rfl (hb hby d2_1) rfl (l' := #[.val (.ref a1), .val (.int p1), .val (.int (0 : Int32)), .unset, .unset, .unset]) rfl k) ?_
  refine go _ (s₁.setTop (mkF m 3 #[.val (.ref a1), .val (.int p1), .val (.int (0 : Int32)), .unset, .unset, .unset] [(.int (0 : Int32))])) (fun t k => XS.iconst X0.here hx rfl (hb hby d2_2) k) ?_
  refine go _ (s₁.setTop (mkF m 4 #[.val (.ref a1), .val (.int p1), .val (.int (0 : Int32)), .val (.int (0 : Int32)), .unset, .unset] [])) (fun t k => XS.istoreN X0.here hx rfl (hb hby d2_3) rfl (l' := #[.val (.ref a1), .val (.int p1), .val (.int (0 : Int32)), .val (.int (0 : Int32)), .unset, .unset]) rfl k) ?_
  refine go _ (s₁.setTop (mkF m 5 #[.val (.ref a1), .val (.int p1), .val (.int (0 : Int32)), .val (.int (0 : Int32)), .unset, .unset] [(.int p1)])) (fun t k => XS.iloadN X0.here hx rfl (hb hby d2_4) rfl k) ?_
  refine go _ (s₁.setTop (mkF m 7 #[.val (.ref a1), .val (.int p1), .val (.int (0 : Int32)), .val (.int (0 : Int32)), .val (.int p1), .unset] [])) (fun t k => XS.istore X0.here hx rfl (hb hby d2_5) rfl (l' := #[.val (.ref a1), .val (.int p1), .val (.int (0 : Int32)), .val (.int (0 : Int32)), .val (.int p1), .unset]) rfl k) ?_
  refine go _ (s₁.setTop (mkF m 8 #[.val (.ref a1), .val (.int p1), .val (.int (0 : Int32)), .val (.int (0 : Int32)), .val (.int p1), .unset] [(.ref a1)])) (fun t k => XS.aloadN X0.here hx rfl (hb hby d2_7) rfl rfl k) ?_
  refine go _ (s₁.setTop (mkF m 10 #[.val (.ref a1), .val (.int p1), .val (.int (0 : Int32)), .val (.int (0 : Int32)), .val (.int p1), .unset] [(.int p1), (.ref a1)])) (fun t k => XS.iload X0.here hx rfl (hb hby d2_8) rfl k) ?_
  refine go _ (s₁.setTop (mkF m 13 #[.val (.ref a1), .val (.int p1), .val (.int (0 : Int32)), .val (.int (0 : Int32)), .val (.int (p1 + (1 : Int32))), .unset] [(.int p1), (.ref a1)])) (fun t k => XS.iinc X0.here hx rfl (hb hby d2_10) rfl (l' := #[.val (.ref a1), .val (.int p1), .val (.int (0 : Int32)), .val (.int (0 : Int32)), .val (.int (p1 + (1 : Int32))), .unset]) rfl k) ?_
  refine go _ (s₁.setTop (mkF m 14 #[.val (.ref a1), .val (.int p1), .val (.int (0 : Int32)), .val (.int (0 : Int32)), .val (.int (p1 + (1 : Int32))), .unset] [(.int y0)])) (own_ldB X0 hx hZ e0 A0 (i := i) hj0 (by omega) (g := (mkF m 13 #[.val (.ref a1), .val (.int p1), .val (.int (0 : Int32)), .val (.int (0 : Int32)), .val (.int (p1 + (1 : Int32))), .unset] [(.int p1), (.ref a1)])) rfl rfl (hb hby d2_13) (v := (.int y0)) hv0) ?_
  refine go _ (s₁.setTop (mkF m 16 #[.val (.ref a1), .val (.int p1), .val (.int (0 : Int32)), .val (.int (0 : Int32)), .val (.int (p1 + (1 : Int32))), .val (.int y0)] [])) (fun t k => XS.istore X0.here hx rfl (hb hby d2_14) rfl (l' := #[.val (.ref a1), .val (.int p1), .val (.int (0 : Int32)), .val (.int (0 : Int32)), .val (.int (p1 + (1 : Int32))), .val (.int y0)]) rfl k) ?_
  refine go _ (s₁.setTop (mkF m 17 #[.val (.ref a1), .val (.int p1), .val (.int (0 : Int32)), .val (.int (0 : Int32)), .val (.int (p1 + (1 : Int32))), .val (.int y0)] [(.int (0 : Int32))])) (fun t k => XS.iloadN X0.here hx rfl (hb hby d2_16) rfl k) ?_
  refine go _ (s₁.setTop (mkF m 19 #[.val (.ref a1), .val (.int p1), .val (.int (0 : Int32)), .val (.int (0 : Int32)), .val (.int (p1 + (1 : Int32))), .val (.int y0)] [(.int y0), (.int (0 : Int32))])) (fun t k => XS.iload X0.here hx rfl (hb hby d2_17) rfl k) ?_
  refine go _ (s₁.setTop (mkF m 21 #[.val (.ref a1), .val (.int p1), .val (.int (0 : Int32)), .val (.int (0 : Int32)), .val (.int (p1 + (1 : Int32))), .val (.int y0)] [(.int (127 : Int32)), (.int y0), (.int (0 : Int32))])) (fun t k => XS.bipush X0.here hx rfl (hb hby d2_19) k) ?_
  refine go _ (s₁.setTop (mkF m 22 #[.val (.ref a1), .val (.int p1), .val (.int (0 : Int32)), .val (.int (0 : Int32)), .val (.int (p1 + (1 : Int32))), .val (.int y0)] [(.int (y0 &&& (127 : Int32))), (.int (0 : Int32))])) (fun t k => XS.iand X0.here hx rfl (hb hby d2_21) rfl k) ?_
  refine go _ (s₁.setTop (mkF m 23 #[.val (.ref a1), .val (.int p1), .val (.int (0 : Int32)), .val (.int (0 : Int32)), .val (.int (p1 + (1 : Int32))), .val (.int y0)] [(.int (0 : Int32)), (.int (y0 &&& (127 : Int32))), (.int (0 : Int32))])) (fun t k => XS.iloadN X0.here hx rfl (hb hby d2_22) rfl k) ?_
  refine go _ (s₁.setTop (mkF m 24 #[.val (.ref a1), .val (.int p1), .val (.int (0 : Int32)), .val (.int (0 : Int32)), .val (.int (p1 + (1 : Int32))), .val (.int y0)] [(.int (jshl (y0 &&& (127 : Int32)) (0 : Int32))), (.int (0 : Int32))])) (fun t k => XS.ishl X0.here hx rfl (hb hby d2_23) rfl k) ?_
  refine go _ (s₁.setTop (mkF m 25 #[.val (.ref a1), .val (.int p1), .val (.int (0 : Int32)), .val (.int (0 : Int32)), .val (.int (p1 + (1 : Int32))), .val (.int y0)] [(.int ((0 : Int32) ||| (jshl (y0 &&& (127 : Int32)) (0 : Int32))))])) (fun t k => XS.ior X0.here hx rfl (hb hby d2_24) rfl k) ?_
  refine go _ (s₁.setTop (mkF m 26 #[.val (.ref a1), .val (.int p1), .val (.int ((0 : Int32) ||| (jshl (y0 &&& (127 : Int32)) (0 : Int32)))), .val (.int (0 : Int32)), .val (.int (p1 + (1 : Int32))), .val (.int y0)] [])) (fun t k => XS.istoreN X0.here hx rfl (hb hby d2_25) rfl (l' := #[.val (.ref a1), .val (.int p1), .val (.int ((0 : Int32) ||| (jshl (y0 &&& (127 : Int32)) (0 : Int32)))), .val (.int (0 : Int32)), .val (.int (p1 + (1 : Int32))), .val (.int y0)]) rfl k) ?_
  refine go _ (s₁.setTop (mkF m 29 #[.val (.ref a1), .val (.int p1), .val (.int ((0 : Int32) ||| (jshl (y0 &&& (127 : Int32)) (0 : Int32)))), .val (.int ((0 : Int32) + (7 : Int32))), .val (.int (p1 + (1 : Int32))), .val (.int y0)] [])) (fun t k => XS.iinc X0.here hx rfl (hb hby d2_26) rfl (l' := #[.val (.ref a1), .val (.int p1), .val (.int ((0 : Int32) ||| (jshl (y0 &&& (127 : Int32)) (0 : Int32)))), .val (.int ((0 : Int32) + (7 : Int32))), .val (.int (p1 + (1 : Int32))), .val (.int y0)]) rfl k) ?_
  refine go _ (s₁.setTop (mkF m 31 #[.val (.ref a1), .val (.int p1), .val (.int ((0 : Int32) ||| (jshl (y0 &&& (127 : Int32)) (0 : Int32)))), .val (.int ((0 : Int32) + (7 : Int32))), .val (.int (p1 + (1 : Int32))), .val (.int y0)] [(.int y0)])) (fun t k => XS.iload X0.here hx rfl (hb hby d2_29) rfl k) ?_
  by_cases hc42 : y0 < (0 : Int32)
  · refine go _ (s₁.setTop (mkF m 7 #[.val (.ref a1), .val (.int p1), .val (.int ((0 : Int32) ||| (jshl (y0 &&& (127 : Int32)) (0 : Int32)))), .val (.int ((0 : Int32) + (7 : Int32))), .val (.int (p1 + (1 : Int32))), .val (.int y0)] [])) (fun t k => XS.ifYes X0.here hx rfl (pc0 := 31) (pc' := 7) rfl (hb hby d2_31) rfl ((if0 _ _).trans (tlt hc42).1) (by decide) (by decide) k) ?_
    refine go _ (s₁.setTop (mkF m 8 #[.val (.ref a1), .val (.int p1), .val (.int ((0 : Int32) ||| (jshl (y0 &&& (127 : Int32)) (0 : Int32)))), .val (.int ((0 : Int32) + (7 : Int32))), .val (.int (p1 + (1 : Int32))), .val (.int y0)] [(.ref a1)])) (fun t k => XS.aloadN X0.here hx rfl (hb hby d2_7) rfl rfl k) ?_
    refine go _ (s₁.setTop (mkF m 10 #[.val (.ref a1), .val (.int p1), .val (.int ((0 : Int32) ||| (jshl (y0 &&& (127 : Int32)) (0 : Int32)))), .val (.int ((0 : Int32) + (7 : Int32))), .val (.int (p1 + (1 : Int32))), .val (.int y0)] [(.int (p1 + (1 : Int32))), (.ref a1)])) (fun t k => XS.iload X0.here hx rfl (hb hby d2_8) rfl k) ?_
    refine go _ (s₁.setTop (mkF m 13 #[.val (.ref a1), .val (.int p1), .val (.int ((0 : Int32) ||| (jshl (y0 &&& (127 : Int32)) (0 : Int32)))), .val (.int ((0 : Int32) + (7 : Int32))), .val (.int ((p1 + (1 : Int32)) + (1 : Int32))), .val (.int y0)] [(.int (p1 + (1 : Int32))), (.ref a1)])) (fun t k => XS.iinc X0.here hx rfl (hb hby d2_10) rfl (l' := #[.val (.ref a1), .val (.int p1), .val (.int ((0 : Int32) ||| (jshl (y0 &&& (127 : Int32)) (0 : Int32)))), .val (.int ((0 : Int32) + (7 : Int32))), .val (.int ((p1 + (1 : Int32)) + (1 : Int32))), .val (.int y0)]) rfl k) ?_
    refine go _ (s₁.setTop (mkF m 14 #[.val (.ref a1), .val (.int p1), .val (.int ((0 : Int32) ||| (jshl (y0 &&& (127 : Int32)) (0 : Int32)))), .val (.int ((0 : Int32) + (7 : Int32))), .val (.int ((p1 + (1 : Int32)) + (1 : Int32))), .val (.int y0)] [(.int y1)])) (own_ldB X0 hx hZ e0 A0 (i := (i + 1)) hj1 (by omega) (g := (mkF m 13 #[.val (.ref a1), .val (.int p1), .val (.int ((0 : Int32) ||| (jshl (y0 &&& (127 : Int32)) (0 : Int32)))), .val (.int ((0 : Int32) + (7 : Int32))), .val (.int ((p1 + (1 : Int32)) + (1 : Int32))), .val (.int y0)] [(.int (p1 + (1 : Int32))), (.ref a1)])) rfl rfl (hb hby d2_13) (v := (.int y1)) hv1) ?_
    refine go _ (s₁.setTop (mkF m 16 #[.val (.ref a1), .val (.int p1), .val (.int ((0 : Int32) ||| (jshl (y0 &&& (127 : Int32)) (0 : Int32)))), .val (.int ((0 : Int32) + (7 : Int32))), .val (.int ((p1 + (1 : Int32)) + (1 : Int32))), .val (.int y1)] [])) (fun t k => XS.istore X0.here hx rfl (hb hby d2_14) rfl (l' := #[.val (.ref a1), .val (.int p1), .val (.int ((0 : Int32) ||| (jshl (y0 &&& (127 : Int32)) (0 : Int32)))), .val (.int ((0 : Int32) + (7 : Int32))), .val (.int ((p1 + (1 : Int32)) + (1 : Int32))), .val (.int y1)]) rfl k) ?_
    refine go _ (s₁.setTop (mkF m 17 #[.val (.ref a1), .val (.int p1), .val (.int ((0 : Int32) ||| (jshl (y0 &&& (127 : Int32)) (0 : Int32)))), .val (.int ((0 : Int32) + (7 : Int32))), .val (.int ((p1 + (1 : Int32)) + (1 : Int32))), .val (.int y1)] [(.int ((0 : Int32) ||| (jshl (y0 &&& (127 : Int32)) (0 : Int32))))])) (fun t k => XS.iloadN X0.here hx rfl (hb hby d2_16) rfl k) ?_
    refine go _ (s₁.setTop (mkF m 19 #[.val (.ref a1), .val (.int p1), .val (.int ((0 : Int32) ||| (jshl (y0 &&& (127 : Int32)) (0 : Int32)))), .val (.int ((0 : Int32) + (7 : Int32))), .val (.int ((p1 + (1 : Int32)) + (1 : Int32))), .val (.int y1)] [(.int y1), (.int ((0 : Int32) ||| (jshl (y0 &&& (127 : Int32)) (0 : Int32))))])) (fun t k => XS.iload X0.here hx rfl (hb hby d2_17) rfl k) ?_
    refine go _ (s₁.setTop (mkF m 21 #[.val (.ref a1), .val (.int p1), .val (.int ((0 : Int32) ||| (jshl (y0 &&& (127 : Int32)) (0 : Int32)))), .val (.int ((0 : Int32) + (7 : Int32))), .val (.int ((p1 + (1 : Int32)) + (1 : Int32))), .val (.int y1)] [(.int (127 : Int32)), (.int y1), (.int ((0 : Int32) ||| (jshl (y0 &&& (127 : Int32)) (0 : Int32))))])) (fun t k => XS.bipush X0.here hx rfl (hb hby d2_19) k) ?_
    refine go _ (s₁.setTop (mkF m 22 #[.val (.ref a1), .val (.int p1), .val (.int ((0 : Int32) ||| (jshl (y0 &&& (127 : Int32)) (0 : Int32)))), .val (.int ((0 : Int32) + (7 : Int32))), .val (.int ((p1 + (1 : Int32)) + (1 : Int32))), .val (.int y1)] [(.int (y1 &&& (127 : Int32))), (.int ((0 : Int32) ||| (jshl (y0 &&& (127 : Int32)) (0 : Int32))))])) (fun t k => XS.iand X0.here hx rfl (hb hby d2_21) rfl k) ?_
    refine go _ (s₁.setTop (mkF m 23 #[.val (.ref a1), .val (.int p1), .val (.int ((0 : Int32) ||| (jshl (y0 &&& (127 : Int32)) (0 : Int32)))), .val (.int ((0 : Int32) + (7 : Int32))), .val (.int ((p1 + (1 : Int32)) + (1 : Int32))), .val (.int y1)] [(.int ((0 : Int32) + (7 : Int32))), (.int (y1 &&& (127 : Int32))), (.int ((0 : Int32) ||| (jshl (y0 &&& (127 : Int32)) (0 : Int32))))])) (fun t k => XS.iloadN X0.here hx rfl (hb hby d2_22) rfl k) ?_
    refine go _ (s₁.setTop (mkF m 24 #[.val (.ref a1), .val (.int p1), .val (.int ((0 : Int32) ||| (jshl (y0 &&& (127 : Int32)) (0 : Int32)))), .val (.int ((0 : Int32) + (7 : Int32))), .val (.int ((p1 + (1 : Int32)) + (1 : Int32))), .val (.int y1)] [(.int (jshl (y1 &&& (127 : Int32)) ((0 : Int32) + (7 : Int32)))), (.int ((0 : Int32) ||| (jshl (y0 &&& (127 : Int32)) (0 : Int32))))])) (fun t k => XS.ishl X0.here hx rfl (hb hby d2_23) rfl k) ?_
    refine go _ (s₁.setTop (mkF m 25 #[.val (.ref a1), .val (.int p1), .val (.int ((0 : Int32) ||| (jshl (y0 &&& (127 : Int32)) (0 : Int32)))), .val (.int ((0 : Int32) + (7 : Int32))), .val (.int ((p1 + (1 : Int32)) + (1 : Int32))), .val (.int y1)] [(.int (((0 : Int32) ||| (jshl (y0 &&& (127 : Int32)) (0 : Int32))) ||| (jshl (y1 &&& (127 : Int32)) ((0 : Int32) + (7 : Int32)))))])) (fun t k => XS.ior X0.here hx rfl (hb hby d2_24) rfl k) ?_
    refine go _ (s₁.setTop (mkF m 26 #[.val (.ref a1), .val (.int p1), .val (.int (((0 : Int32) ||| (jshl (y0 &&& (127 : Int32)) (0 : Int32))) ||| (jshl (y1 &&& (127 : Int32)) ((0 : Int32) + (7 : Int32))))), .val (.int ((0 : Int32) + (7 : Int32))), .val (.int ((p1 + (1 : Int32)) + (1 : Int32))), .val (.int y1)] [])) (fun t k => XS.istoreN X0.here hx rfl (hb hby d2_25) rfl (l' := #[.val (.ref a1), .val (.int p1), .val (.int (((0 : Int32) ||| (jshl (y0 &&& (127 : Int32)) (0 : Int32))) ||| (jshl (y1 &&& (127 : Int32)) ((0 : Int32) + (7 : Int32))))), .val (.int ((0 : Int32) + (7 : Int32))), .val (.int ((p1 + (1 : Int32)) + (1 : Int32))), .val (.int y1)]) rfl k) ?_
    refine go _ (s₁.setTop (mkF m 29 #[.val (.ref a1), .val (.int p1), .val (.int (((0 : Int32) ||| (jshl (y0 &&& (127 : Int32)) (0 : Int32))) ||| (jshl (y1 &&& (127 : Int32)) ((0 : Int32) + (7 : Int32))))), .val (.int (((0 : Int32) + (7 : Int32)) + (7 : Int32))), .val (.int ((p1 + (1 : Int32)) + (1 : Int32))), .val (.int y1)] [])) (fun t k => XS.iinc X0.here hx rfl (hb hby d2_26) rfl (l' := #[.val (.ref a1), .val (.int p1), .val (.int (((0 : Int32) ||| (jshl (y0 &&& (127 : Int32)) (0 : Int32))) ||| (jshl (y1 &&& (127 : Int32)) ((0 : Int32) + (7 : Int32))))), .val (.int (((0 : Int32) + (7 : Int32)) + (7 : Int32))), .val (.int ((p1 + (1 : Int32)) + (1 : Int32))), .val (.int y1)]) rfl k) ?_
    refine go _ (s₁.setTop (mkF m 31 #[.val (.ref a1), .val (.int p1), .val (.int (((0 : Int32) ||| (jshl (y0 &&& (127 : Int32)) (0 : Int32))) ||| (jshl (y1 &&& (127 : Int32)) ((0 : Int32) + (7 : Int32))))), .val (.int (((0 : Int32) + (7 : Int32)) + (7 : Int32))), .val (.int ((p1 + (1 : Int32)) + (1 : Int32))), .val (.int y1)] [(.int y1)])) (fun t k => XS.iload X0.here hx rfl (hb hby d2_29) rfl k) ?_
    by_cases hc43 : y1 < (0 : Int32)
    · refine go _ (s₁.setTop (mkF m 7 #[.val (.ref a1), .val (.int p1), .val (.int (((0 : Int32) ||| (jshl (y0 &&& (127 : Int32)) (0 : Int32))) ||| (jshl (y1 &&& (127 : Int32)) ((0 : Int32) + (7 : Int32))))), .val (.int (((0 : Int32) + (7 : Int32)) + (7 : Int32))), .val (.int ((p1 + (1 : Int32)) + (1 : Int32))), .val (.int y1)] [])) (fun t k => XS.ifYes X0.here hx rfl (pc0 := 31) (pc' := 7) rfl (hb hby d2_31) rfl ((if0 _ _).trans (tlt hc43).1) (by decide) (by decide) k) ?_
      refine go _ (s₁.setTop (mkF m 8 #[.val (.ref a1), .val (.int p1), .val (.int (((0 : Int32) ||| (jshl (y0 &&& (127 : Int32)) (0 : Int32))) ||| (jshl (y1 &&& (127 : Int32)) ((0 : Int32) + (7 : Int32))))), .val (.int (((0 : Int32) + (7 : Int32)) + (7 : Int32))), .val (.int ((p1 + (1 : Int32)) + (1 : Int32))), .val (.int y1)] [(.ref a1)])) (fun t k => XS.aloadN X0.here hx rfl (hb hby d2_7) rfl rfl k) ?_
      refine go _ (s₁.setTop (mkF m 10 #[.val (.ref a1), .val (.int p1), .val (.int (((0 : Int32) ||| (jshl (y0 &&& (127 : Int32)) (0 : Int32))) ||| (jshl (y1 &&& (127 : Int32)) ((0 : Int32) + (7 : Int32))))), .val (.int (((0 : Int32) + (7 : Int32)) + (7 : Int32))), .val (.int ((p1 + (1 : Int32)) + (1 : Int32))), .val (.int y1)] [(.int ((p1 + (1 : Int32)) + (1 : Int32))), (.ref a1)])) (fun t k => XS.iload X0.here hx rfl (hb hby d2_8) rfl k) ?_
      refine go _ (s₁.setTop (mkF m 13 #[.val (.ref a1), .val (.int p1), .val (.int (((0 : Int32) ||| (jshl (y0 &&& (127 : Int32)) (0 : Int32))) ||| (jshl (y1 &&& (127 : Int32)) ((0 : Int32) + (7 : Int32))))), .val (.int (((0 : Int32) + (7 : Int32)) + (7 : Int32))), .val (.int (((p1 + (1 : Int32)) + (1 : Int32)) + (1 : Int32))), .val (.int y1)] [(.int ((p1 + (1 : Int32)) + (1 : Int32))), (.ref a1)])) (fun t k => XS.iinc X0.here hx rfl (hb hby d2_10) rfl (l' := #[.val (.ref a1), .val (.int p1), .val (.int (((0 : Int32) ||| (jshl (y0 &&& (127 : Int32)) (0 : Int32))) ||| (jshl (y1 &&& (127 : Int32)) ((0 : Int32) + (7 : Int32))))), .val (.int (((0 : Int32) + (7 : Int32)) + (7 : Int32))), .val (.int (((p1 + (1 : Int32)) + (1 : Int32)) + (1 : Int32))), .val (.int y1)]) rfl k) ?_
      refine go _ (s₁.setTop (mkF m 14 #[.val (.ref a1), .val (.int p1), .val (.int (((0 : Int32) ||| (jshl (y0 &&& (127 : Int32)) (0 : Int32))) ||| (jshl (y1 &&& (127 : Int32)) ((0 : Int32) + (7 : Int32))))), .val (.int (((0 : Int32) + (7 : Int32)) + (7 : Int32))), .val (.int (((p1 + (1 : Int32)) + (1 : Int32)) + (1 : Int32))), .val (.int y1)] [(.int y2)])) (own_ldB X0 hx hZ e0 A0 (i := (i + 2)) hj2 (by omega) (g := (mkF m 13 #[.val (.ref a1), .val (.int p1), .val (.int (((0 : Int32) ||| (jshl (y0 &&& (127 : Int32)) (0 : Int32))) ||| (jshl (y1 &&& (127 : Int32)) ((0 : Int32) + (7 : Int32))))), .val (.int (((0 : Int32) + (7 : Int32)) + (7 : Int32))), .val (.int (((p1 + (1 : Int32)) + (1 : Int32)) + (1 : Int32))), .val (.int y1)] [(.int ((p1 + (1 : Int32)) + (1 : Int32))), (.ref a1)])) rfl rfl (hb hby d2_13) (v := (.int y2)) hv2) ?_
      refine go _ (s₁.setTop (mkF m 16 #[.val (.ref a1), .val (.int p1), .val (.int (((0 : Int32) ||| (jshl (y0 &&& (127 : Int32)) (0 : Int32))) ||| (jshl (y1 &&& (127 : Int32)) ((0 : Int32) + (7 : Int32))))), .val (.int (((0 : Int32) + (7 : Int32)) + (7 : Int32))), .val (.int (((p1 + (1 : Int32)) + (1 : Int32)) + (1 : Int32))), .val (.int y2)] [])) (fun t k => XS.istore X0.here hx rfl (hb hby d2_14) rfl (l' := #[.val (.ref a1), .val (.int p1), .val (.int (((0 : Int32) ||| (jshl (y0 &&& (127 : Int32)) (0 : Int32))) ||| (jshl (y1 &&& (127 : Int32)) ((0 : Int32) + (7 : Int32))))), .val (.int (((0 : Int32) + (7 : Int32)) + (7 : Int32))), .val (.int (((p1 + (1 : Int32)) + (1 : Int32)) + (1 : Int32))), .val (.int y2)]) rfl k) ?_
      refine go _ (s₁.setTop (mkF m 17 #[.val (.ref a1), .val (.int p1), .val (.int (((0 : Int32) ||| (jshl (y0 &&& (127 : Int32)) (0 : Int32))) ||| (jshl (y1 &&& (127 : Int32)) ((0 : Int32) + (7 : Int32))))), .val (.int (((0 : Int32) + (7 : Int32)) + (7 : Int32))), .val (.int (((p1 + (1 : Int32)) + (1 : Int32)) + (1 : Int32))), .val (.int y2)] [(.int (((0 : Int32) ||| (jshl (y0 &&& (127 : Int32)) (0 : Int32))) ||| (jshl (y1 &&& (127 : Int32)) ((0 : Int32) + (7 : Int32)))))])) (fun t k => XS.iloadN X0.here hx rfl (hb hby d2_16) rfl k) ?_
      refine go _ (s₁.setTop (mkF m 19 #[.val (.ref a1), .val (.int p1), .val (.int (((0 : Int32) ||| (jshl (y0 &&& (127 : Int32)) (0 : Int32))) ||| (jshl (y1 &&& (127 : Int32)) ((0 : Int32) + (7 : Int32))))), .val (.int (((0 : Int32) + (7 : Int32)) + (7 : Int32))), .val (.int (((p1 + (1 : Int32)) + (1 : Int32)) + (1 : Int32))), .val (.int y2)] [(.int y2), (.int (((0 : Int32) ||| (jshl (y0 &&& (127 : Int32)) (0 : Int32))) ||| (jshl (y1 &&& (127 : Int32)) ((0 : Int32) + (7 : Int32)))))])) (fun t k => XS.iload X0.here hx rfl (hb hby d2_17) rfl k) ?_
      refine go _ (s₁.setTop (mkF m 21 #[.val (.ref a1), .val (.int p1), .val (.int (((0 : Int32) ||| (jshl (y0 &&& (127 : Int32)) (0 : Int32))) ||| (jshl (y1 &&& (127 : Int32)) ((0 : Int32) + (7 : Int32))))), .val (.int (((0 : Int32) + (7 : Int32)) + (7 : Int32))), .val (.int (((p1 + (1 : Int32)) + (1 : Int32)) + (1 : Int32))), .val (.int y2)] [(.int (127 : Int32)), (.int y2), (.int (((0 : Int32) ||| (jshl (y0 &&& (127 : Int32)) (0 : Int32))) ||| (jshl (y1 &&& (127 : Int32)) ((0 : Int32) + (7 : Int32)))))])) (fun t k => XS.bipush X0.here hx rfl (hb hby d2_19) k) ?_
      refine go _ (s₁.setTop (mkF m 22 #[.val (.ref a1), .val (.int p1), .val (.int (((0 : Int32) ||| (jshl (y0 &&& (127 : Int32)) (0 : Int32))) ||| (jshl (y1 &&& (127 : Int32)) ((0 : Int32) + (7 : Int32))))), .val (.int (((0 : Int32) + (7 : Int32)) + (7 : Int32))), .val (.int (((p1 + (1 : Int32)) + (1 : Int32)) + (1 : Int32))), .val (.int y2)] [(.int (y2 &&& (127 : Int32))), (.int (((0 : Int32) ||| (jshl (y0 &&& (127 : Int32)) (0 : Int32))) ||| (jshl (y1 &&& (127 : Int32)) ((0 : Int32) + (7 : Int32)))))])) (fun t k => XS.iand X0.here hx rfl (hb hby d2_21) rfl k) ?_
      refine go _ (s₁.setTop (mkF m 23 #[.val (.ref a1), .val (.int p1), .val (.int (((0 : Int32) ||| (jshl (y0 &&& (127 : Int32)) (0 : Int32))) ||| (jshl (y1 &&& (127 : Int32)) ((0 : Int32) + (7 : Int32))))), .val (.int (((0 : Int32) + (7 : Int32)) + (7 : Int32))), .val (.int (((p1 + (1 : Int32)) + (1 : Int32)) + (1 : Int32))), .val (.int y2)] [(.int (((0 : Int32) + (7 : Int32)) + (7 : Int32))), (.int (y2 &&& (127 : Int32))), (.int (((0 : Int32) ||| (jshl (y0 &&& (127 : Int32)) (0 : Int32))) ||| (jshl (y1 &&& (127 : Int32)) ((0 : Int32) + (7 : Int32)))))])) (fun t k => XS.iloadN X0.here hx rfl (hb hby d2_22) rfl k) ?_
      refine go _ (s₁.setTop (mkF m 24 #[.val (.ref a1), .val (.int p1), .val (.int (((0 : Int32) ||| (jshl (y0 &&& (127 : Int32)) (0 : Int32))) ||| (jshl (y1 &&& (127 : Int32)) ((0 : Int32) + (7 : Int32))))), .val (.int (((0 : Int32) + (7 : Int32)) + (7 : Int32))), .val (.int (((p1 + (1 : Int32)) + (1 : Int32)) + (1 : Int32))), .val (.int y2)] [(.int (jshl (y2 &&& (127 : Int32)) (((0 : Int32) + (7 : Int32)) + (7 : Int32)))), (.int (((0 : Int32) ||| (jshl (y0 &&& (127 : Int32)) (0 : Int32))) ||| (jshl (y1 &&& (127 : Int32)) ((0 : Int32) + (7 : Int32)))))])) (fun t k => XS.ishl X0.here hx rfl (hb hby d2_23) rfl k) ?_
      refine go _ (s₁.setTop (mkF m 25 #[.val (.ref a1), .val (.int p1), .val (.int (((0 : Int32) ||| (jshl (y0 &&& (127 : Int32)) (0 : Int32))) ||| (jshl (y1 &&& (127 : Int32)) ((0 : Int32) + (7 : Int32))))), .val (.int (((0 : Int32) + (7 : Int32)) + (7 : Int32))), .val (.int (((p1 + (1 : Int32)) + (1 : Int32)) + (1 : Int32))), .val (.int y2)] [(.int ((((0 : Int32) ||| (jshl (y0 &&& (127 : Int32)) (0 : Int32))) ||| (jshl (y1 &&& (127 : Int32)) ((0 : Int32) + (7 : Int32)))) ||| (jshl (y2 &&& (127 : Int32)) (((0 : Int32) + (7 : Int32)) + (7 : Int32)))))])) (fun t k => XS.ior X0.here hx rfl (hb hby d2_24) rfl k) ?_
      refine go _ (s₁.setTop (mkF m 26 #[.val (.ref a1), .val (.int p1), .val (.int ((((0 : Int32) ||| (jshl (y0 &&& (127 : Int32)) (0 : Int32))) ||| (jshl (y1 &&& (127 : Int32)) ((0 : Int32) + (7 : Int32)))) ||| (jshl (y2 &&& (127 : Int32)) (((0 : Int32) + (7 : Int32)) + (7 : Int32))))), .val (.int (((0 : Int32) + (7 : Int32)) + (7 : Int32))), .val (.int (((p1 + (1 : Int32)) + (1 : Int32)) + (1 : Int32))), .val (.int y2)] [])) (fun t k => XS.istoreN X0.here hx rfl (hb hby d2_25) rfl (l' := #[.val (.ref a1), .val (.int p1), .val (.int ((((0 : Int32) ||| (jshl (y0 &&& (127 : Int32)) (0 : Int32))) ||| (jshl (y1 &&& (127 : Int32)) ((0 : Int32) + (7 : Int32)))) ||| (jshl (y2 &&& (127 : Int32)) (((0 : Int32) + (7 : Int32)) + (7 : Int32))))), .val (.int (((0 : Int32) + (7 : Int32)) + (7 : Int32))), .val (.int (((p1 + (1 : Int32)) + (1 : Int32)) + (1 : Int32))), .val (.int y2)]) rfl k) ?_
      refine go _ (s₁.setTop (mkF m 29 #[.val (.ref a1), .val (.int p1), .val (.int ((((0 : Int32) ||| (jshl (y0 &&& (127 : Int32)) (0 : Int32))) ||| (jshl (y1 &&& (127 : Int32)) ((0 : Int32) + (7 : Int32)))) ||| (jshl (y2 &&& (127 : Int32)) (((0 : Int32) + (7 : Int32)) + (7 : Int32))))), .val (.int ((((0 : Int32) + (7 : Int32)) + (7 : Int32)) + (7 : Int32))), .val (.int (((p1 + (1 : Int32)) + (1 : Int32)) + (1 : Int32))), .val (.int y2)] [])) (fun t k => XS.iinc X0.here hx rfl (hb hby d2_26) rfl (l' := #[.val (.ref a1), .val (.int p1), .val (.int ((((0 : Int32) ||| (jshl (y0 &&& (127 : Int32)) (0 : Int32))) ||| (jshl (y1 &&& (127 : Int32)) ((0 : Int32) + (7 : Int32)))) ||| (jshl (y2 &&& (127 : Int32)) (((0 : Int32) + (7 : Int32)) + (7 : Int32))))), .val (.int ((((0 : Int32) + (7 : Int32)) + (7 : Int32)) + (7 : Int32))), .val (.int (((p1 + (1 : Int32)) + (1 : Int32)) + (1 : Int32))), .val (.int y2)]) rfl k) ?_
      refine go _ (s₁.setTop (mkF m 31 #[.val (.ref a1), .val (.int p1), .val (.int ((((0 : Int32) ||| (jshl (y0 &&& (127 : Int32)) (0 : Int32))) ||| (jshl (y1 &&& (127 : Int32)) ((0 : Int32) + (7 : Int32)))) ||| (jshl (y2 &&& (127 : Int32)) (((0 : Int32) + (7 : Int32)) + (7 : Int32))))), .val (.int ((((0 : Int32) + (7 : Int32)) + (7 : Int32)) + (7 : Int32))), .val (.int (((p1 + (1 : Int32)) + (1 : Int32)) + (1 : Int32))), .val (.int y2)] [(.int y2)])) (fun t k => XS.iload X0.here hx rfl (hb hby d2_29) rfl k) ?_
      by_cases hc44 : y2 < (0 : Int32)
      · refine go _ (s₁.setTop (mkF m 7 #[.val (.ref a1), .val (.int p1), .val (.int ((((0 : Int32) ||| (jshl (y0 &&& (127 : Int32)) (0 : Int32))) ||| (jshl (y1 &&& (127 : Int32)) ((0 : Int32) + (7 : Int32)))) ||| (jshl (y2 &&& (127 : Int32)) (((0 : Int32) + (7 : Int32)) + (7 : Int32))))), .val (.int ((((0 : Int32) + (7 : Int32)) + (7 : Int32)) + (7 : Int32))), .val (.int (((p1 + (1 : Int32)) + (1 : Int32)) + (1 : Int32))), .val (.int y2)] [])) (fun t k => XS.ifYes X0.here hx rfl (pc0 := 31) (pc' := 7) rfl (hb hby d2_31) rfl ((if0 _ _).trans (tlt hc44).1) (by decide) (by decide) k) ?_
        refine go _ (s₁.setTop (mkF m 8 #[.val (.ref a1), .val (.int p1), .val (.int ((((0 : Int32) ||| (jshl (y0 &&& (127 : Int32)) (0 : Int32))) ||| (jshl (y1 &&& (127 : Int32)) ((0 : Int32) + (7 : Int32)))) ||| (jshl (y2 &&& (127 : Int32)) (((0 : Int32) + (7 : Int32)) + (7 : Int32))))), .val (.int ((((0 : Int32) + (7 : Int32)) + (7 : Int32)) + (7 : Int32))), .val (.int (((p1 + (1 : Int32)) + (1 : Int32)) + (1 : Int32))), .val (.int y2)] [(.ref a1)])) (fun t k => XS.aloadN X0.here hx rfl (hb hby d2_7) rfl rfl k) ?_
        refine go _ (s₁.setTop (mkF m 10 #[.val (.ref a1), .val (.int p1), .val (.int ((((0 : Int32) ||| (jshl (y0 &&& (127 : Int32)) (0 : Int32))) ||| (jshl (y1 &&& (127 : Int32)) ((0 : Int32) + (7 : Int32)))) ||| (jshl (y2 &&& (127 : Int32)) (((0 : Int32) + (7 : Int32)) + (7 : Int32))))), .val (.int ((((0 : Int32) + (7 : Int32)) + (7 : Int32)) + (7 : Int32))), .val (.int (((p1 + (1 : Int32)) + (1 : Int32)) + (1 : Int32))), .val (.int y2)] [(.int (((p1 + (1 : Int32)) + (1 : Int32)) + (1 : Int32))), (.ref a1)])) (fun t k => XS.iload X0.here hx rfl (hb hby d2_8) rfl k) ?_
        refine go _ (s₁.setTop (mkF m 13 #[.val (.ref a1), .val (.int p1), .val (.int ((((0 : Int32) ||| (jshl (y0 &&& (127 : Int32)) (0 : Int32))) ||| (jshl (y1 &&& (127 : Int32)) ((0 : Int32) + (7 : Int32)))) ||| (jshl (y2 &&& (127 : Int32)) (((0 : Int32) + (7 : Int32)) + (7 : Int32))))), .val (.int ((((0 : Int32) + (7 : Int32)) + (7 : Int32)) + (7 : Int32))), .val (.int ((((p1 + (1 : Int32)) + (1 : Int32)) + (1 : Int32)) + (1 : Int32))), .val (.int y2)] [(.int (((p1 + (1 : Int32)) + (1 : Int32)) + (1 : Int32))), (.ref a1)])) (fun t k => XS.iinc X0.here hx rfl (hb hby d2_10) rfl (l' := #[.val (.ref a1), .val (.int p1), .val (.int ((((0 : Int32) ||| (jshl (y0 &&& (127 : Int32)) (0 : Int32))) ||| (jshl (y1 &&& (127 : Int32)) ((0 : Int32) + (7 : Int32)))) ||| (jshl (y2 &&& (127 : Int32)) (((0 : Int32) + (7 : Int32)) + (7 : Int32))))), .val (.int ((((0 : Int32) + (7 : Int32)) + (7 : Int32)) + (7 : Int32))), .val (.int ((((p1 + (1 : Int32)) + (1 : Int32)) + (1 : Int32)) + (1 : Int32))), .val (.int y2)]) rfl k) ?_
        refine go _ (s₁.setTop (mkF m 14 #[.val (.ref a1), .val (.int p1), .val (.int ((((0 : Int32) ||| (jshl (y0 &&& (127 : Int32)) (0 : Int32))) ||| (jshl (y1 &&& (127 : Int32)) ((0 : Int32) + (7 : Int32)))) ||| (jshl (y2 &&& (127 : Int32)) (((0 : Int32) + (7 : Int32)) + (7 : Int32))))), .val (.int ((((0 : Int32) + (7 : Int32)) + (7 : Int32)) + (7 : Int32))), .val (.int ((((p1 + (1 : Int32)) + (1 : Int32)) + (1 : Int32)) + (1 : Int32))), .val (.int y2)] [(.int y3)])) (own_ldB X0 hx hZ e0 A0 (i := (i + 3)) hj3 (by omega) (g := (mkF m 13 #[.val (.ref a1), .val (.int p1), .val (.int ((((0 : Int32) ||| (jshl (y0 &&& (127 : Int32)) (0 : Int32))) ||| (jshl (y1 &&& (127 : Int32)) ((0 : Int32) + (7 : Int32)))) ||| (jshl (y2 &&& (127 : Int32)) (((0 : Int32) + (7 : Int32)) + (7 : Int32))))), .val (.int ((((0 : Int32) + (7 : Int32)) + (7 : Int32)) + (7 : Int32))), .val (.int ((((p1 + (1 : Int32)) + (1 : Int32)) + (1 : Int32)) + (1 : Int32))), .val (.int y2)] [(.int (((p1 + (1 : Int32)) + (1 : Int32)) + (1 : Int32))), (.ref a1)])) rfl rfl (hb hby d2_13) (v := (.int y3)) hv3) ?_
        refine go _ (s₁.setTop (mkF m 16 #[.val (.ref a1), .val (.int p1), .val (.int ((((0 : Int32) ||| (jshl (y0 &&& (127 : Int32)) (0 : Int32))) ||| (jshl (y1 &&& (127 : Int32)) ((0 : Int32) + (7 : Int32)))) ||| (jshl (y2 &&& (127 : Int32)) (((0 : Int32) + (7 : Int32)) + (7 : Int32))))), .val (.int ((((0 : Int32) + (7 : Int32)) + (7 : Int32)) + (7 : Int32))), .val (.int ((((p1 + (1 : Int32)) + (1 : Int32)) + (1 : Int32)) + (1 : Int32))), .val (.int y3)] [])) (fun t k => XS.istore X0.here hx rfl (hb hby d2_14) rfl (l' := #[.val (.ref a1), .val (.int p1), .val (.int ((((0 : Int32) ||| (jshl (y0 &&& (127 : Int32)) (0 : Int32))) ||| (jshl (y1 &&& (127 : Int32)) ((0 : Int32) + (7 : Int32)))) ||| (jshl (y2 &&& (127 : Int32)) (((0 : Int32) + (7 : Int32)) + (7 : Int32))))), .val (.int ((((0 : Int32) + (7 : Int32)) + (7 : Int32)) + (7 : Int32))), .val (.int ((((p1 + (1 : Int32)) + (1 : Int32)) + (1 : Int32)) + (1 : Int32))), .val (.int y3)]) rfl k) ?_
        refine go _ (s₁.setTop (mkF m 17 #[.val (.ref a1), .val (.int p1), .val (.int ((((0 : Int32) ||| (jshl (y0 &&& (127 : Int32)) (0 : Int32))) ||| (jshl (y1 &&& (127 : Int32)) ((0 : Int32) + (7 : Int32)))) ||| (jshl (y2 &&& (127 : Int32)) (((0 : Int32) + (7 : Int32)) + (7 : Int32))))), .val (.int ((((0 : Int32) + (7 : Int32)) + (7 : Int32)) + (7 : Int32))), .val (.int ((((p1 + (1 : Int32)) + (1 : Int32)) + (1 : Int32)) + (1 : Int32))), .val (.int y3)] [(.int ((((0 : Int32) ||| (jshl (y0 &&& (127 : Int32)) (0 : Int32))) ||| (jshl (y1 &&& (127 : Int32)) ((0 : Int32) + (7 : Int32)))) ||| (jshl (y2 &&& (127 : Int32)) (((0 : Int32) + (7 : Int32)) + (7 : Int32)))))])) (fun t k => XS.iloadN X0.here hx rfl (hb hby d2_16) rfl k) ?_
        refine go _ (s₁.setTop (mkF m 19 #[.val (.ref a1), .val (.int p1), .val (.int ((((0 : Int32) ||| (jshl (y0 &&& (127 : Int32)) (0 : Int32))) ||| (jshl (y1 &&& (127 : Int32)) ((0 : Int32) + (7 : Int32)))) ||| (jshl (y2 &&& (127 : Int32)) (((0 : Int32) + (7 : Int32)) + (7 : Int32))))), .val (.int ((((0 : Int32) + (7 : Int32)) + (7 : Int32)) + (7 : Int32))), .val (.int ((((p1 + (1 : Int32)) + (1 : Int32)) + (1 : Int32)) + (1 : Int32))), .val (.int y3)] [(.int y3), (.int ((((0 : Int32) ||| (jshl (y0 &&& (127 : Int32)) (0 : Int32))) ||| (jshl (y1 &&& (127 : Int32)) ((0 : Int32) + (7 : Int32)))) ||| (jshl (y2 &&& (127 : Int32)) (((0 : Int32) + (7 : Int32)) + (7 : Int32)))))])) (fun t k => XS.iload X0.here hx rfl (hb hby d2_17) rfl k) ?_
        refine go _ (s₁.setTop (mkF m 21 #[.val (.ref a1), .val (.int p1), .val (.int ((((0 : Int32) ||| (jshl (y0 &&& (127 : Int32)) (0 : Int32))) ||| (jshl (y1 &&& (127 : Int32)) ((0 : Int32) + (7 : Int32)))) ||| (jshl (y2 &&& (127 : Int32)) (((0 : Int32) + (7 : Int32)) + (7 : Int32))))), .val (.int ((((0 : Int32) + (7 : Int32)) + (7 : Int32)) + (7 : Int32))), .val (.int ((((p1 + (1 : Int32)) + (1 : Int32)) + (1 : Int32)) + (1 : Int32))), .val (.int y3)] [(.int (127 : Int32)), (.int y3), (.int ((((0 : Int32) ||| (jshl (y0 &&& (127 : Int32)) (0 : Int32))) ||| (jshl (y1 &&& (127 : Int32)) ((0 : Int32) + (7 : Int32)))) ||| (jshl (y2 &&& (127 : Int32)) (((0 : Int32) + (7 : Int32)) + (7 : Int32)))))])) (fun t k => XS.bipush X0.here hx rfl (hb hby d2_19) k) ?_
        refine go _ (s₁.setTop (mkF m 22 #[.val (.ref a1), .val (.int p1), .val (.int ((((0 : Int32) ||| (jshl (y0 &&& (127 : Int32)) (0 : Int32))) ||| (jshl (y1 &&& (127 : Int32)) ((0 : Int32) + (7 : Int32)))) ||| (jshl (y2 &&& (127 : Int32)) (((0 : Int32) + (7 : Int32)) + (7 : Int32))))), .val (.int ((((0 : Int32) + (7 : Int32)) + (7 : Int32)) + (7 : Int32))), .val (.int ((((p1 + (1 : Int32)) + (1 : Int32)) + (1 : Int32)) + (1 : Int32))), .val (.int y3)] [(.int (y3 &&& (127 : Int32))), (.int ((((0 : Int32) ||| (jshl (y0 &&& (127 : Int32)) (0 : Int32))) ||| (jshl (y1 &&& (127 : Int32)) ((0 : Int32) + (7 : Int32)))) ||| (jshl (y2 &&& (127 : Int32)) (((0 : Int32) + (7 : Int32)) + (7 : Int32)))))])) (fun t k => XS.iand X0.here hx rfl (hb hby d2_21) rfl k) ?_
        refine go _ (s₁.setTop (mkF m 23 #[.val (.ref a1), .val (.int p1), .val (.int ((((0 : Int32) ||| (jshl (y0 &&& (127 : Int32)) (0 : Int32))) ||| (jshl (y1 &&& (127 : Int32)) ((0 : Int32) + (7 : Int32)))) ||| (jshl (y2 &&& (127 : Int32)) (((0 : Int32) + (7 : Int32)) + (7 : Int32))))), .val (.int ((((0 : Int32) + (7 : Int32)) + (7 : Int32)) + (7 : Int32))), .val (.int ((((p1 + (1 : Int32)) + (1 : Int32)) + (1 : Int32)) + (1 : Int32))), .val (.int y3)] [(.int ((((0 : Int32) + (7 : Int32)) + (7 : Int32)) + (7 : Int32))), (.int (y3 &&& (127 : Int32))), (.int ((((0 : Int32) ||| (jshl (y0 &&& (127 : Int32)) (0 : Int32))) ||| (jshl (y1 &&& (127 : Int32)) ((0 : Int32) + (7 : Int32)))) ||| (jshl (y2 &&& (127 : Int32)) (((0 : Int32) + (7 : Int32)) + (7 : Int32)))))])) (fun t k => XS.iloadN X0.here hx rfl (hb hby d2_22) rfl k) ?_
        refine go _ (s₁.setTop (mkF m 24 #[.val (.ref a1), .val (.int p1), .val (.int ((((0 : Int32) ||| (jshl (y0 &&& (127 : Int32)) (0 : Int32))) ||| (jshl (y1 &&& (127 : Int32)) ((0 : Int32) + (7 : Int32)))) ||| (jshl (y2 &&& (127 : Int32)) (((0 : Int32) + (7 : Int32)) + (7 : Int32))))), .val (.int ((((0 : Int32) + (7 : Int32)) + (7 : Int32)) + (7 : Int32))), .val (.int ((((p1 + (1 : Int32)) + (1 : Int32)) + (1 : Int32)) + (1 : Int32))), .val (.int y3)] [(.int (jshl (y3 &&& (127 : Int32)) ((((0 : Int32) + (7 : Int32)) + (7 : Int32)) + (7 : Int32)))), (.int ((((0 : Int32) ||| (jshl (y0 &&& (127 : Int32)) (0 : Int32))) ||| (jshl (y1 &&& (127 : Int32)) ((0 : Int32) + (7 : Int32)))) ||| (jshl (y2 &&& (127 : Int32)) (((0 : Int32) + (7 : Int32)) + (7 : Int32)))))])) (fun t k => XS.ishl X0.here hx rfl (hb hby d2_23) rfl k) ?_
        refine go _ (s₁.setTop (mkF m 25 #[.val (.ref a1), .val (.int p1), .val (.int ((((0 : Int32) ||| (jshl (y0 &&& (127 : Int32)) (0 : Int32))) ||| (jshl (y1 &&& (127 : Int32)) ((0 : Int32) + (7 : Int32)))) ||| (jshl (y2 &&& (127 : Int32)) (((0 : Int32) + (7 : Int32)) + (7 : Int32))))), .val (.int ((((0 : Int32) + (7 : Int32)) + (7 : Int32)) + (7 : Int32))), .val (.int ((((p1 + (1 : Int32)) + (1 : Int32)) + (1 : Int32)) + (1 : Int32))), .val (.int y3)] [(.int (((((0 : Int32) ||| (jshl (y0 &&& (127 : Int32)) (0 : Int32))) ||| (jshl (y1 &&& (127 : Int32)) ((0 : Int32) + (7 : Int32)))) ||| (jshl (y2 &&& (127 : Int32)) (((0 : Int32) + (7 : Int32)) + (7 : Int32)))) ||| (jshl (y3 &&& (127 : Int32)) ((((0 : Int32) + (7 : Int32)) + (7 : Int32)) + (7 : Int32)))))])) (fun t k => XS.ior X0.here hx rfl (hb hby d2_24) rfl k) ?_
        refine go _ (s₁.setTop (mkF m 26 #[.val (.ref a1), .val (.int p1), .val (.int (((((0 : Int32) ||| (jshl (y0 &&& (127 : Int32)) (0 : Int32))) ||| (jshl (y1 &&& (127 : Int32)) ((0 : Int32) + (7 : Int32)))) ||| (jshl (y2 &&& (127 : Int32)) (((0 : Int32) + (7 : Int32)) + (7 : Int32)))) ||| (jshl (y3 &&& (127 : Int32)) ((((0 : Int32) + (7 : Int32)) + (7 : Int32)) + (7 : Int32))))), .val (.int ((((0 : Int32) + (7 : Int32)) + (7 : Int32)) + (7 : Int32))), .val (.int ((((p1 + (1 : Int32)) + (1 : Int32)) + (1 : Int32)) + (1 : Int32))), .val (.int y3)] [])) (fun t k => XS.istoreN X0.here hx rfl (hb hby d2_25) rfl (l' := #[.val (.ref a1), .val (.int p1), .val (.int (((((0 : Int32) ||| (jshl (y0 &&& (127 : Int32)) (0 : Int32))) ||| (jshl (y1 &&& (127 : Int32)) ((0 : Int32) + (7 : Int32)))) ||| (jshl (y2 &&& (127 : Int32)) (((0 : Int32) + (7 : Int32)) + (7 : Int32)))) ||| (jshl (y3 &&& (127 : Int32)) ((((0 : Int32) + (7 : Int32)) + (7 : Int32)) + (7 : Int32))))), .val (.int ((((0 : Int32) + (7 : Int32)) + (7 : Int32)) + (7 : Int32))), .val (.int ((((p1 + (1 : Int32)) + (1 : Int32)) + (1 : Int32)) + (1 : Int32))), .val (.int y3)]) rfl k) ?_
        refine go _ (s₁.setTop (mkF m 29 #[.val (.ref a1), .val (.int p1), .val (.int (((((0 : Int32) ||| (jshl (y0 &&& (127 : Int32)) (0 : Int32))) ||| (jshl (y1 &&& (127 : Int32)) ((0 : Int32) + (7 : Int32)))) ||| (jshl (y2 &&& (127 : Int32)) (((0 : Int32) + (7 : Int32)) + (7 : Int32)))) ||| (jshl (y3 &&& (127 : Int32)) ((((0 : Int32) + (7 : Int32)) + (7 : Int32)) + (7 : Int32))))), .val (.int (((((0 : Int32) + (7 : Int32)) + (7 : Int32)) + (7 : Int32)) + (7 : Int32))), .val (.int ((((p1 + (1 : Int32)) + (1 : Int32)) + (1 : Int32)) + (1 : Int32))), .val (.int y3)] [])) (fun t k => XS.iinc X0.here hx rfl (hb hby d2_26) rfl (l' := #[.val (.ref a1), .val (.int p1), .val (.int (((((0 : Int32) ||| (jshl (y0 &&& (127 : Int32)) (0 : Int32))) ||| (jshl (y1 &&& (127 : Int32)) ((0 : Int32) + (7 : Int32)))) ||| (jshl (y2 &&& (127 : Int32)) (((0 : Int32) + (7 : Int32)) + (7 : Int32)))) ||| (jshl (y3 &&& (127 : Int32)) ((((0 : Int32) + (7 : Int32)) + (7 : Int32)) + (7 : Int32))))), .val (.int (((((0 : Int32) + (7 : Int32)) + (7 : Int32)) + (7 : Int32)) + (7 : Int32))), .val (.int ((((p1 + (1 : Int32)) + (1 : Int32)) + (1 : Int32)) + (1 : Int32))), .val (.int y3)]) rfl k) ?_
        refine go _ (s₁.setTop (mkF m 31 #[.val (.ref a1), .val (.int p1), .val (.int (((((0 : Int32) ||| (jshl (y0 &&& (127 : Int32)) (0 : Int32))) ||| (jshl (y1 &&& (127 : Int32)) ((0 : Int32) + (7 : Int32)))) ||| (jshl (y2 &&& (127 : Int32)) (((0 : Int32) + (7 : Int32)) + (7 : Int32)))) ||| (jshl (y3 &&& (127 : Int32)) ((((0 : Int32) + (7 : Int32)) + (7 : Int32)) + (7 : Int32))))), .val (.int (((((0 : Int32) + (7 : Int32)) + (7 : Int32)) + (7 : Int32)) + (7 : Int32))), .val (.int ((((p1 + (1 : Int32)) + (1 : Int32)) + (1 : Int32)) + (1 : Int32))), .val (.int y3)] [(.int y3)])) (fun t k => XS.iload X0.here hx rfl (hb hby d2_29) rfl k) ?_
        by_cases hc45 : y3 < (0 : Int32)
        · refine go _ (s₁.setTop (mkF m 7 #[.val (.ref a1), .val (.int p1), .val (.int (((((0 : Int32) ||| (jshl (y0 &&& (127 : Int32)) (0 : Int32))) ||| (jshl (y1 &&& (127 : Int32)) ((0 : Int32) + (7 : Int32)))) ||| (jshl (y2 &&& (127 : Int32)) (((0 : Int32) + (7 : Int32)) + (7 : Int32)))) ||| (jshl (y3 &&& (127 : Int32)) ((((0 : Int32) + (7 : Int32)) + (7 : Int32)) + (7 : Int32))))), .val (.int (((((0 : Int32) + (7 : Int32)) + (7 : Int32)) + (7 : Int32)) + (7 : Int32))), .val (.int ((((p1 + (1 : Int32)) + (1 : Int32)) + (1 : Int32)) + (1 : Int32))), .val (.int y3)] [])) (fun t k => XS.ifYes X0.here hx rfl (pc0 := 31) (pc' := 7) rfl (hb hby d2_31) rfl ((if0 _ _).trans (tlt hc45).1) (by decide) (by decide) k) ?_
          refine go _ (s₁.setTop (mkF m 8 #[.val (.ref a1), .val (.int p1), .val (.int (((((0 : Int32) ||| (jshl (y0 &&& (127 : Int32)) (0 : Int32))) ||| (jshl (y1 &&& (127 : Int32)) ((0 : Int32) + (7 : Int32)))) ||| (jshl (y2 &&& (127 : Int32)) (((0 : Int32) + (7 : Int32)) + (7 : Int32)))) ||| (jshl (y3 &&& (127 : Int32)) ((((0 : Int32) + (7 : Int32)) + (7 : Int32)) + (7 : Int32))))), .val (.int (((((0 : Int32) + (7 : Int32)) + (7 : Int32)) + (7 : Int32)) + (7 : Int32))), .val (.int ((((p1 + (1 : Int32)) + (1 : Int32)) + (1 : Int32)) + (1 : Int32))), .val (.int y3)] [(.ref a1)])) (fun t k => XS.aloadN X0.here hx rfl (hb hby d2_7) rfl rfl k) ?_
          refine go _ (s₁.setTop (mkF m 10 #[.val (.ref a1), .val (.int p1), .val (.int (((((0 : Int32) ||| (jshl (y0 &&& (127 : Int32)) (0 : Int32))) ||| (jshl (y1 &&& (127 : Int32)) ((0 : Int32) + (7 : Int32)))) ||| (jshl (y2 &&& (127 : Int32)) (((0 : Int32) + (7 : Int32)) + (7 : Int32)))) ||| (jshl (y3 &&& (127 : Int32)) ((((0 : Int32) + (7 : Int32)) + (7 : Int32)) + (7 : Int32))))), .val (.int (((((0 : Int32) + (7 : Int32)) + (7 : Int32)) + (7 : Int32)) + (7 : Int32))), .val (.int ((((p1 + (1 : Int32)) + (1 : Int32)) + (1 : Int32)) + (1 : Int32))), .val (.int y3)] [(.int ((((p1 + (1 : Int32)) + (1 : Int32)) + (1 : Int32)) + (1 : Int32))), (.ref a1)])) (fun t k => XS.iload X0.here hx rfl (hb hby d2_8) rfl k) ?_
          refine go _ (s₁.setTop (mkF m 13 #[.val (.ref a1), .val (.int p1), .val (.int (((((0 : Int32) ||| (jshl (y0 &&& (127 : Int32)) (0 : Int32))) ||| (jshl (y1 &&& (127 : Int32)) ((0 : Int32) + (7 : Int32)))) ||| (jshl (y2 &&& (127 : Int32)) (((0 : Int32) + (7 : Int32)) + (7 : Int32)))) ||| (jshl (y3 &&& (127 : Int32)) ((((0 : Int32) + (7 : Int32)) + (7 : Int32)) + (7 : Int32))))), .val (.int (((((0 : Int32) + (7 : Int32)) + (7 : Int32)) + (7 : Int32)) + (7 : Int32))), .val (.int (((((p1 + (1 : Int32)) + (1 : Int32)) + (1 : Int32)) + (1 : Int32)) + (1 : Int32))), .val (.int y3)] [(.int ((((p1 + (1 : Int32)) + (1 : Int32)) + (1 : Int32)) + (1 : Int32))), (.ref a1)])) (fun t k => XS.iinc X0.here hx rfl (hb hby d2_10) rfl (l' := #[.val (.ref a1), .val (.int p1), .val (.int (((((0 : Int32) ||| (jshl (y0 &&& (127 : Int32)) (0 : Int32))) ||| (jshl (y1 &&& (127 : Int32)) ((0 : Int32) + (7 : Int32)))) ||| (jshl (y2 &&& (127 : Int32)) (((0 : Int32) + (7 : Int32)) + (7 : Int32)))) ||| (jshl (y3 &&& (127 : Int32)) ((((0 : Int32) + (7 : Int32)) + (7 : Int32)) + (7 : Int32))))), .val (.int (((((0 : Int32) + (7 : Int32)) + (7 : Int32)) + (7 : Int32)) + (7 : Int32))), .val (.int (((((p1 + (1 : Int32)) + (1 : Int32)) + (1 : Int32)) + (1 : Int32)) + (1 : Int32))), .val (.int y3)]) rfl k) ?_
          refine go _ (s₁.setTop (mkF m 14 #[.val (.ref a1), .val (.int p1), .val (.int (((((0 : Int32) ||| (jshl (y0 &&& (127 : Int32)) (0 : Int32))) ||| (jshl (y1 &&& (127 : Int32)) ((0 : Int32) + (7 : Int32)))) ||| (jshl (y2 &&& (127 : Int32)) (((0 : Int32) + (7 : Int32)) + (7 : Int32)))) ||| (jshl (y3 &&& (127 : Int32)) ((((0 : Int32) + (7 : Int32)) + (7 : Int32)) + (7 : Int32))))), .val (.int (((((0 : Int32) + (7 : Int32)) + (7 : Int32)) + (7 : Int32)) + (7 : Int32))), .val (.int (((((p1 + (1 : Int32)) + (1 : Int32)) + (1 : Int32)) + (1 : Int32)) + (1 : Int32))), .val (.int y3)] [(.int y4)])) (own_ldB X0 hx hZ e0 A0 (i := (i + 4)) hj4 (by omega) (g := (mkF m 13 #[.val (.ref a1), .val (.int p1), .val (.int (((((0 : Int32) ||| (jshl (y0 &&& (127 : Int32)) (0 : Int32))) ||| (jshl (y1 &&& (127 : Int32)) ((0 : Int32) + (7 : Int32)))) ||| (jshl (y2 &&& (127 : Int32)) (((0 : Int32) + (7 : Int32)) + (7 : Int32)))) ||| (jshl (y3 &&& (127 : Int32)) ((((0 : Int32) + (7 : Int32)) + (7 : Int32)) + (7 : Int32))))), .val (.int (((((0 : Int32) + (7 : Int32)) + (7 : Int32)) + (7 : Int32)) + (7 : Int32))), .val (.int (((((p1 + (1 : Int32)) + (1 : Int32)) + (1 : Int32)) + (1 : Int32)) + (1 : Int32))), .val (.int y3)] [(.int ((((p1 + (1 : Int32)) + (1 : Int32)) + (1 : Int32)) + (1 : Int32))), (.ref a1)])) rfl rfl (hb hby d2_13) (v := (.int y4)) hv4) ?_
          refine go _ (s₁.setTop (mkF m 16 #[.val (.ref a1), .val (.int p1), .val (.int (((((0 : Int32) ||| (jshl (y0 &&& (127 : Int32)) (0 : Int32))) ||| (jshl (y1 &&& (127 : Int32)) ((0 : Int32) + (7 : Int32)))) ||| (jshl (y2 &&& (127 : Int32)) (((0 : Int32) + (7 : Int32)) + (7 : Int32)))) ||| (jshl (y3 &&& (127 : Int32)) ((((0 : Int32) + (7 : Int32)) + (7 : Int32)) + (7 : Int32))))), .val (.int (((((0 : Int32) + (7 : Int32)) + (7 : Int32)) + (7 : Int32)) + (7 : Int32))), .val (.int (((((p1 + (1 : Int32)) + (1 : Int32)) + (1 : Int32)) + (1 : Int32)) + (1 : Int32))), .val (.int y4)] [])) (fun t k => XS.istore X0.here hx rfl (hb hby d2_14) rfl (l' := #[.val (.ref a1), .val (.int p1), .val (.int (((((0 : Int32) ||| (jshl (y0 &&& (127 : Int32)) (0 : Int32))) ||| (jshl (y1 &&& (127 : Int32)) ((0 : Int32) + (7 : Int32)))) ||| (jshl (y2 &&& (127 : Int32)) (((0 : Int32) + (7 : Int32)) + (7 : Int32)))) ||| (jshl (y3 &&& (127 : Int32)) ((((0 : Int32) + (7 : Int32)) + (7 : Int32)) + (7 : Int32))))), .val (.int (((((0 : Int32) + (7 : Int32)) + (7 : Int32)) + (7 : Int32)) + (7 : Int32))), .val (.int (((((p1 + (1 : Int32)) + (1 : Int32)) + (1 : Int32)) + (1 : Int32)) + (1 : Int32))), .val (.int y4)]) rfl k) ?_
          refine go _ (s₁.setTop (mkF m 17 #[.val (.ref a1), .val (.int p1), .val (.int (((((0 : Int32) ||| (jshl (y0 &&& (127 : Int32)) (0 : Int32))) ||| (jshl (y1 &&& (127 : Int32)) ((0 : Int32) + (7 : Int32)))) ||| (jshl (y2 &&& (127 : Int32)) (((0 : Int32) + (7 : Int32)) + (7 : Int32)))) ||| (jshl (y3 &&& (127 : Int32)) ((((0 : Int32) + (7 : Int32)) + (7 : Int32)) + (7 : Int32))))), .val (.int (((((0 : Int32) + (7 : Int32)) + (7 : Int32)) + (7 : Int32)) + (7 : Int32))), .val (.int (((((p1 + (1 : Int32)) + (1 : Int32)) + (1 : Int32)) + (1 : Int32)) + (1 : Int32))), .val (.int y4)] [(.int (((((0 : Int32) ||| (jshl (y0 &&& (127 : Int32)) (0 : Int32))) ||| (jshl (y1 &&& (127 : Int32)) ((0 : Int32) + (7 : Int32)))) ||| (jshl (y2 &&& (127 : Int32)) (((0 : Int32) + (7 : Int32)) + (7 : Int32)))) ||| (jshl (y3 &&& (127 : Int32)) ((((0 : Int32) + (7 : Int32)) + (7 : Int32)) + (7 : Int32)))))])) (fun t k => XS.iloadN X0.here hx rfl (hb hby d2_16) rfl k) ?_
          refine go _ (s₁.setTop (mkF m 19 #[.val (.ref a1), .val (.int p1), .val (.int (((((0 : Int32) ||| (jshl (y0 &&& (127 : Int32)) (0 : Int32))) ||| (jshl (y1 &&& (127 : Int32)) ((0 : Int32) + (7 : Int32)))) ||| (jshl (y2 &&& (127 : Int32)) (((0 : Int32) + (7 : Int32)) + (7 : Int32)))) ||| (jshl (y3 &&& (127 : Int32)) ((((0 : Int32) + (7 : Int32)) + (7 : Int32)) + (7 : Int32))))), .val (.int (((((0 : Int32) + (7 : Int32)) + (7 : Int32)) + (7 : Int32)) + (7 : Int32))), .val (.int (((((p1 + (1 : Int32)) + (1 : Int32)) + (1 : Int32)) + (1 : Int32)) + (1 : Int32))), .val (.int y4)] [(.int y4), (.int (((((0 : Int32) ||| (jshl (y0 &&& (127 : Int32)) (0 : Int32))) ||| (jshl (y1 &&& (127 : Int32)) ((0 : Int32) + (7 : Int32)))) ||| (jshl (y2 &&& (127 : Int32)) (((0 : Int32) + (7 : Int32)) + (7 : Int32)))) ||| (jshl (y3 &&& (127 : Int32)) ((((0 : Int32) + (7 : Int32)) + (7 : Int32)) + (7 : Int32)))))])) (fun t k => XS.iload X0.here hx rfl (hb hby d2_17) rfl k) ?_
          refine go _ (s₁.setTop (mkF m 21 #[.val (.ref a1), .val (.int p1), .val (.int (((((0 : Int32) ||| (jshl (y0 &&& (127 : Int32)) (0 : Int32))) ||| (jshl (y1 &&& (127 : Int32)) ((0 : Int32) + (7 : Int32)))) ||| (jshl (y2 &&& (127 : Int32)) (((0 : Int32) + (7 : Int32)) + (7 : Int32)))) ||| (jshl (y3 &&& (127 : Int32)) ((((0 : Int32) + (7 : Int32)) + (7 : Int32)) + (7 : Int32))))), .val (.int (((((0 : Int32) + (7 : Int32)) + (7 : Int32)) + (7 : Int32)) + (7 : Int32))), .val (.int (((((p1 + (1 : Int32)) + (1 : Int32)) + (1 : Int32)) + (1 : Int32)) + (1 : Int32))), .val (.int y4)] [(.int (127 : Int32)), (.int y4), (.int (((((0 : Int32) ||| (jshl (y0 &&& (127 : Int32)) (0 : Int32))) ||| (jshl (y1 &&& (127 : Int32)) ((0 : Int32) + (7 : Int32)))) ||| (jshl (y2 &&& (127 : Int32)) (((0 : Int32) + (7 : Int32)) + (7 : Int32)))) ||| (jshl (y3 &&& (127 : Int32)) ((((0 : Int32) + (7 : Int32)) + (7 : Int32)) + (7 : Int32)))))])) (fun t k => XS.bipush X0.here hx rfl (hb hby d2_19) k) ?_
          refine go _ (s₁.setTop (mkF m 22 #[.val (.ref a1), .val (.int p1), .val (.int (((((0 : Int32) ||| (jshl (y0 &&& (127 : Int32)) (0 : Int32))) ||| (jshl (y1 &&& (127 : Int32)) ((0 : Int32) + (7 : Int32)))) ||| (jshl (y2 &&& (127 : Int32)) (((0 : Int32) + (7 : Int32)) + (7 : Int32)))) ||| (jshl (y3 &&& (127 : Int32)) ((((0 : Int32) + (7 : Int32)) + (7 : Int32)) + (7 : Int32))))), .val (.int (((((0 : Int32) + (7 : Int32)) + (7 : Int32)) + (7 : Int32)) + (7 : Int32))), .val (.int (((((p1 + (1 : Int32)) + (1 : Int32)) + (1 : Int32)) + (1 : Int32)) + (1 : Int32))), .val (.int y4)] [(.int (y4 &&& (127 : Int32))), (.int (((((0 : Int32) ||| (jshl (y0 &&& (127 : Int32)) (0 : Int32))) ||| (jshl (y1 &&& (127 : Int32)) ((0 : Int32) + (7 : Int32)))) ||| (jshl (y2 &&& (127 : Int32)) (((0 : Int32) + (7 : Int32)) + (7 : Int32)))) ||| (jshl (y3 &&& (127 : Int32)) ((((0 : Int32) + (7 : Int32)) + (7 : Int32)) + (7 : Int32)))))])) (fun t k => XS.iand X0.here hx rfl (hb hby d2_21) rfl k) ?_
          refine go _ (s₁.setTop (mkF m 23 #[.val (.ref a1), .val (.int p1), .val (.int (((((0 : Int32) ||| (jshl (y0 &&& (127 : Int32)) (0 : Int32))) ||| (jshl (y1 &&& (127 : Int32)) ((0 : Int32) + (7 : Int32)))) ||| (jshl (y2 &&& (127 : Int32)) (((0 : Int32) + (7 : Int32)) + (7 : Int32)))) ||| (jshl (y3 &&& (127 : Int32)) ((((0 : Int32) + (7 : Int32)) + (7 : Int32)) + (7 : Int32))))), .val (.int (((((0 : Int32) + (7 : Int32)) + (7 : Int32)) + (7 : Int32)) + (7 : Int32))), .val (.int (((((p1 + (1 : Int32)) + (1 : Int32)) + (1 : Int32)) + (1 : Int32)) + (1 : Int32))), .val (.int y4)] [(.int (((((0 : Int32) + (7 : Int32)) + (7 : Int32)) + (7 : Int32)) + (7 : Int32))), (.int (y4 &&& (127 : Int32))), (.int (((((0 : Int32) ||| (jshl (y0 &&& (127 : Int32)) (0 : Int32))) ||| (jshl (y1 &&& (127 : Int32)) ((0 : Int32) + (7 : Int32)))) ||| (jshl (y2 &&& (127 : Int32)) (((0 : Int32) + (7 : Int32)) + (7 : Int32)))) ||| (jshl (y3 &&& (127 : Int32)) ((((0 : Int32) + (7 : Int32)) + (7 : Int32)) + (7 : Int32)))))])) (fun t k => XS.iloadN X0.here hx rfl (hb hby d2_22) rfl k) ?_
          refine go _ (s₁.setTop (mkF m 24 #[.val (.ref a1), .val (.int p1), .val (.int (((((0 : Int32) ||| (jshl (y0 &&& (127 : Int32)) (0 : Int32))) ||| (jshl (y1 &&& (127 : Int32)) ((0 : Int32) + (7 : Int32)))) ||| (jshl (y2 &&& (127 : Int32)) (((0 : Int32) + (7 : Int32)) + (7 : Int32)))) ||| (jshl (y3 &&& (127 : Int32)) ((((0 : Int32) + (7 : Int32)) + (7 : Int32)) + (7 : Int32))))), .val (.int (((((0 : Int32) + (7 : Int32)) + (7 : Int32)) + (7 : Int32)) + (7 : Int32))), .val (.int (((((p1 + (1 : Int32)) + (1 : Int32)) + (1 : Int32)) + (1 : Int32)) + (1 : Int32))), .val (.int y4)] [(.int (jshl (y4 &&& (127 : Int32)) (((((0 : Int32) + (7 : Int32)) + (7 : Int32)) + (7 : Int32)) + (7 : Int32)))), (.int (((((0 : Int32) ||| (jshl (y0 &&& (127 : Int32)) (0 : Int32))) ||| (jshl (y1 &&& (127 : Int32)) ((0 : Int32) + (7 : Int32)))) ||| (jshl (y2 &&& (127 : Int32)) (((0 : Int32) + (7 : Int32)) + (7 : Int32)))) ||| (jshl (y3 &&& (127 : Int32)) ((((0 : Int32) + (7 : Int32)) + (7 : Int32)) + (7 : Int32)))))])) (fun t k => XS.ishl X0.here hx rfl (hb hby d2_23) rfl k) ?_
          refine go _ (s₁.setTop (mkF m 25 #[.val (.ref a1), .val (.int p1), .val (.int (((((0 : Int32) ||| (jshl (y0 &&& (127 : Int32)) (0 : Int32))) ||| (jshl (y1 &&& (127 : Int32)) ((0 : Int32) + (7 : Int32)))) ||| (jshl (y2 &&& (127 : Int32)) (((0 : Int32) + (7 : Int32)) + (7 : Int32)))) ||| (jshl (y3 &&& (127 : Int32)) ((((0 : Int32) + (7 : Int32)) + (7 : Int32)) + (7 : Int32))))), .val (.int (((((0 : Int32) + (7 : Int32)) + (7 : Int32)) + (7 : Int32)) + (7 : Int32))), .val (.int (((((p1 + (1 : Int32)) + (1 : Int32)) + (1 : Int32)) + (1 : Int32)) + (1 : Int32))), .val (.int y4)] [(.int ((((((0 : Int32) ||| (jshl (y0 &&& (127 : Int32)) (0 : Int32))) ||| (jshl (y1 &&& (127 : Int32)) ((0 : Int32) + (7 : Int32)))) ||| (jshl (y2 &&& (127 : Int32)) (((0 : Int32) + (7 : Int32)) + (7 : Int32)))) ||| (jshl (y3 &&& (127 : Int32)) ((((0 : Int32) + (7 : Int32)) + (7 : Int32)) + (7 : Int32)))) ||| (jshl (y4 &&& (127 : Int32)) (((((0 : Int32) + (7 : Int32)) + (7 : Int32)) + (7 : Int32)) + (7 : Int32)))))])) (fun t k => XS.ior X0.here hx rfl (hb hby d2_24) rfl k) ?_
          refine go _ (s₁.setTop (mkF m 26 #[.val (.ref a1), .val (.int p1), .val (.int ((((((0 : Int32) ||| (jshl (y0 &&& (127 : Int32)) (0 : Int32))) ||| (jshl (y1 &&& (127 : Int32)) ((0 : Int32) + (7 : Int32)))) ||| (jshl (y2 &&& (127 : Int32)) (((0 : Int32) + (7 : Int32)) + (7 : Int32)))) ||| (jshl (y3 &&& (127 : Int32)) ((((0 : Int32) + (7 : Int32)) + (7 : Int32)) + (7 : Int32)))) ||| (jshl (y4 &&& (127 : Int32)) (((((0 : Int32) + (7 : Int32)) + (7 : Int32)) + (7 : Int32)) + (7 : Int32))))), .val (.int (((((0 : Int32) + (7 : Int32)) + (7 : Int32)) + (7 : Int32)) + (7 : Int32))), .val (.int (((((p1 + (1 : Int32)) + (1 : Int32)) + (1 : Int32)) + (1 : Int32)) + (1 : Int32))), .val (.int y4)] [])) (fun t k => XS.istoreN X0.here hx rfl (hb hby d2_25) rfl (l' := #[.val (.ref a1), .val (.int p1), .val (.int ((((((0 : Int32) ||| (jshl (y0 &&& (127 : Int32)) (0 : Int32))) ||| (jshl (y1 &&& (127 : Int32)) ((0 : Int32) + (7 : Int32)))) ||| (jshl (y2 &&& (127 : Int32)) (((0 : Int32) + (7 : Int32)) + (7 : Int32)))) ||| (jshl (y3 &&& (127 : Int32)) ((((0 : Int32) + (7 : Int32)) + (7 : Int32)) + (7 : Int32)))) ||| (jshl (y4 &&& (127 : Int32)) (((((0 : Int32) + (7 : Int32)) + (7 : Int32)) + (7 : Int32)) + (7 : Int32))))), .val (.int (((((0 : Int32) + (7 : Int32)) + (7 : Int32)) + (7 : Int32)) + (7 : Int32))), .val (.int (((((p1 + (1 : Int32)) + (1 : Int32)) + (1 : Int32)) + (1 : Int32)) + (1 : Int32))), .val (.int y4)]) rfl k) ?_
          refine go _ (s₁.setTop (mkF m 29 #[.val (.ref a1), .val (.int p1), .val (.int ((((((0 : Int32) ||| (jshl (y0 &&& (127 : Int32)) (0 : Int32))) ||| (jshl (y1 &&& (127 : Int32)) ((0 : Int32) + (7 : Int32)))) ||| (jshl (y2 &&& (127 : Int32)) (((0 : Int32) + (7 : Int32)) + (7 : Int32)))) ||| (jshl (y3 &&& (127 : Int32)) ((((0 : Int32) + (7 : Int32)) + (7 : Int32)) + (7 : Int32)))) ||| (jshl (y4 &&& (127 : Int32)) (((((0 : Int32) + (7 : Int32)) + (7 : Int32)) + (7 : Int32)) + (7 : Int32))))), .val (.int ((((((0 : Int32) + (7 : Int32)) + (7 : Int32)) + (7 : Int32)) + (7 : Int32)) + (7 : Int32))), .val (.int (((((p1 + (1 : Int32)) + (1 : Int32)) + (1 : Int32)) + (1 : Int32)) + (1 : Int32))), .val (.int y4)] [])) (fun t k => XS.iinc X0.here hx rfl (hb hby d2_26) rfl (l' := #[.val (.ref a1), .val (.int p1), .val (.int ((((((0 : Int32) ||| (jshl (y0 &&& (127 : Int32)) (0 : Int32))) ||| (jshl (y1 &&& (127 : Int32)) ((0 : Int32) + (7 : Int32)))) ||| (jshl (y2 &&& (127 : Int32)) (((0 : Int32) + (7 : Int32)) + (7 : Int32)))) ||| (jshl (y3 &&& (127 : Int32)) ((((0 : Int32) + (7 : Int32)) + (7 : Int32)) + (7 : Int32)))) ||| (jshl (y4 &&& (127 : Int32)) (((((0 : Int32) + (7 : Int32)) + (7 : Int32)) + (7 : Int32)) + (7 : Int32))))), .val (.int ((((((0 : Int32) + (7 : Int32)) + (7 : Int32)) + (7 : Int32)) + (7 : Int32)) + (7 : Int32))), .val (.int (((((p1 + (1 : Int32)) + (1 : Int32)) + (1 : Int32)) + (1 : Int32)) + (1 : Int32))), .val (.int y4)]) rfl k) ?_
          refine go _ (s₁.setTop (mkF m 31 #[.val (.ref a1), .val (.int p1), .val (.int ((((((0 : Int32) ||| (jshl (y0 &&& (127 : Int32)) (0 : Int32))) ||| (jshl (y1 &&& (127 : Int32)) ((0 : Int32) + (7 : Int32)))) ||| (jshl (y2 &&& (127 : Int32)) (((0 : Int32) + (7 : Int32)) + (7 : Int32)))) ||| (jshl (y3 &&& (127 : Int32)) ((((0 : Int32) + (7 : Int32)) + (7 : Int32)) + (7 : Int32)))) ||| (jshl (y4 &&& (127 : Int32)) (((((0 : Int32) + (7 : Int32)) + (7 : Int32)) + (7 : Int32)) + (7 : Int32))))), .val (.int ((((((0 : Int32) + (7 : Int32)) + (7 : Int32)) + (7 : Int32)) + (7 : Int32)) + (7 : Int32))), .val (.int (((((p1 + (1 : Int32)) + (1 : Int32)) + (1 : Int32)) + (1 : Int32)) + (1 : Int32))), .val (.int y4)] [(.int y4)])) (fun t k => XS.iload X0.here hx rfl (hb hby d2_29) rfl k) ?_
          have hc46 : ¬ (y4 < (0 : Int32)) := (fun q => ht ⟨hc42, hc43, hc44, hc45, q⟩)
          refine go _ (s₁.setTop (mkF m 34 #[.val (.ref a1), .val (.int p1), .val (.int ((((((0 : Int32) ||| (jshl (y0 &&& (127 : Int32)) (0 : Int32))) ||| (jshl (y1 &&& (127 : Int32)) ((0 : Int32) + (7 : Int32)))) ||| (jshl (y2 &&& (127 : Int32)) (((0 : Int32) + (7 : Int32)) + (7 : Int32)))) ||| (jshl (y3 &&& (127 : Int32)) ((((0 : Int32) + (7 : Int32)) + (7 : Int32)) + (7 : Int32)))) ||| (jshl (y4 &&& (127 : Int32)) (((((0 : Int32) + (7 : Int32)) + (7 : Int32)) + (7 : Int32)) + (7 : Int32))))), .val (.int ((((((0 : Int32) + (7 : Int32)) + (7 : Int32)) + (7 : Int32)) + (7 : Int32)) + (7 : Int32))), .val (.int (((((p1 + (1 : Int32)) + (1 : Int32)) + (1 : Int32)) + (1 : Int32)) + (1 : Int32))), .val (.int y4)] [])) (fun t k => XS.ifNo X0.here hx rfl (hb hby d2_31) rfl ((if0 _ _).trans (flt hc46).1) k) ?_
          refine go _ (s₁.setTop (mkF m 35 #[.val (.ref a1), .val (.int p1), .val (.int ((((((0 : Int32) ||| (jshl (y0 &&& (127 : Int32)) (0 : Int32))) ||| (jshl (y1 &&& (127 : Int32)) ((0 : Int32) + (7 : Int32)))) ||| (jshl (y2 &&& (127 : Int32)) (((0 : Int32) + (7 : Int32)) + (7 : Int32)))) ||| (jshl (y3 &&& (127 : Int32)) ((((0 : Int32) + (7 : Int32)) + (7 : Int32)) + (7 : Int32)))) ||| (jshl (y4 &&& (127 : Int32)) (((((0 : Int32) + (7 : Int32)) + (7 : Int32)) + (7 : Int32)) + (7 : Int32))))), .val (.int ((((((0 : Int32) + (7 : Int32)) + (7 : Int32)) + (7 : Int32)) + (7 : Int32)) + (7 : Int32))), .val (.int (((((p1 + (1 : Int32)) + (1 : Int32)) + (1 : Int32)) + (1 : Int32)) + (1 : Int32))), .val (.int y4)] [(.int ((((((0 : Int32) ||| (jshl (y0 &&& (127 : Int32)) (0 : Int32))) ||| (jshl (y1 &&& (127 : Int32)) ((0 : Int32) + (7 : Int32)))) ||| (jshl (y2 &&& (127 : Int32)) (((0 : Int32) + (7 : Int32)) + (7 : Int32)))) ||| (jshl (y3 &&& (127 : Int32)) ((((0 : Int32) + (7 : Int32)) + (7 : Int32)) + (7 : Int32)))) ||| (jshl (y4 &&& (127 : Int32)) (((((0 : Int32) + (7 : Int32)) + (7 : Int32)) + (7 : Int32)) + (7 : Int32)))))])) (fun t k => XS.iloadN X0.here hx rfl (hb hby d2_34) rfl k) ?_
          exact fin (some (.int ((((((0 : Int32) ||| (jshl (y0 &&& (127 : Int32)) (0 : Int32))) ||| (jshl (y1 &&& (127 : Int32)) ((0 : Int32) + (7 : Int32)))) ||| (jshl (y2 &&& (127 : Int32)) (((0 : Int32) + (7 : Int32)) + (7 : Int32)))) ||| (jshl (y3 &&& (127 : Int32)) ((((0 : Int32) + (7 : Int32)) + (7 : Int32)) + (7 : Int32)))) ||| (jshl (y4 &&& (127 : Int32)) (((((0 : Int32) + (7 : Int32)) + (7 : Int32)) + (7 : Int32)) + (7 : Int32)))))) X0 (by decide) (by decide) (fun q => by cases q) (show Q_rm2 Z a1 p1 f n i y0 y1 y2 y3 y4 h0 n0 _ s₁.heap _ from (by rw [e0]; exact ⟨congrArg some (congrArg Value.int (show ((((((0 : Int32) ||| (jshl (y0 &&& (127 : Int32)) (0 : Int32))) ||| (jshl (y1 &&& (127 : Int32)) ((0 : Int32) + (7 : Int32)))) ||| (jshl (y2 &&& (127 : Int32)) (((0 : Int32) + (7 : Int32)) + (7 : Int32)))) ||| (jshl (y3 &&& (127 : Int32)) ((((0 : Int32) + (7 : Int32)) + (7 : Int32)) + (7 : Int32)))) ||| (jshl (y4 &&& (127 : Int32)) (((((0 : Int32) + (7 : Int32)) + (7 : Int32)) + (7 : Int32)) + (7 : Int32)))) = own_rd y0 y1 y2 y3 y4 from (by unfold own_rd; rw [if_pos hc42, if_pos hc43, if_pos hc44, if_pos hc45]))), N0, rfl⟩)) (fun fs hr => retI X0 hx hret (hb hby d2_35) hr)
        · refine go _ (s₁.setTop (mkF m 34 #[.val (.ref a1), .val (.int p1), .val (.int (((((0 : Int32) ||| (jshl (y0 &&& (127 : Int32)) (0 : Int32))) ||| (jshl (y1 &&& (127 : Int32)) ((0 : Int32) + (7 : Int32)))) ||| (jshl (y2 &&& (127 : Int32)) (((0 : Int32) + (7 : Int32)) + (7 : Int32)))) ||| (jshl (y3 &&& (127 : Int32)) ((((0 : Int32) + (7 : Int32)) + (7 : Int32)) + (7 : Int32))))), .val (.int (((((0 : Int32) + (7 : Int32)) + (7 : Int32)) + (7 : Int32)) + (7 : Int32))), .val (.int ((((p1 + (1 : Int32)) + (1 : Int32)) + (1 : Int32)) + (1 : Int32))), .val (.int y3)] [])) (fun t k => XS.ifNo X0.here hx rfl (hb hby d2_31) rfl ((if0 _ _).trans (flt hc45).1) k) ?_
          refine go _ (s₁.setTop (mkF m 35 #[.val (.ref a1), .val (.int p1), .val (.int (((((0 : Int32) ||| (jshl (y0 &&& (127 : Int32)) (0 : Int32))) ||| (jshl (y1 &&& (127 : Int32)) ((0 : Int32) + (7 : Int32)))) ||| (jshl (y2 &&& (127 : Int32)) (((0 : Int32) + (7 : Int32)) + (7 : Int32)))) ||| (jshl (y3 &&& (127 : Int32)) ((((0 : Int32) + (7 : Int32)) + (7 : Int32)) + (7 : Int32))))), .val (.int (((((0 : Int32) + (7 : Int32)) + (7 : Int32)) + (7 : Int32)) + (7 : Int32))), .val (.int ((((p1 + (1 : Int32)) + (1 : Int32)) + (1 : Int32)) + (1 : Int32))), .val (.int y3)] [(.int (((((0 : Int32) ||| (jshl (y0 &&& (127 : Int32)) (0 : Int32))) ||| (jshl (y1 &&& (127 : Int32)) ((0 : Int32) + (7 : Int32)))) ||| (jshl (y2 &&& (127 : Int32)) (((0 : Int32) + (7 : Int32)) + (7 : Int32)))) ||| (jshl (y3 &&& (127 : Int32)) ((((0 : Int32) + (7 : Int32)) + (7 : Int32)) + (7 : Int32)))))])) (fun t k => XS.iloadN X0.here hx rfl (hb hby d2_34) rfl k) ?_
          exact fin (some (.int (((((0 : Int32) ||| (jshl (y0 &&& (127 : Int32)) (0 : Int32))) ||| (jshl (y1 &&& (127 : Int32)) ((0 : Int32) + (7 : Int32)))) ||| (jshl (y2 &&& (127 : Int32)) (((0 : Int32) + (7 : Int32)) + (7 : Int32)))) ||| (jshl (y3 &&& (127 : Int32)) ((((0 : Int32) + (7 : Int32)) + (7 : Int32)) + (7 : Int32)))))) X0 (by decide) (by decide) (fun q => by cases q) (show Q_rm2 Z a1 p1 f n i y0 y1 y2 y3 y4 h0 n0 _ s₁.heap _ from (by rw [e0]; exact ⟨congrArg some (congrArg Value.int (show (((((0 : Int32) ||| (jshl (y0 &&& (127 : Int32)) (0 : Int32))) ||| (jshl (y1 &&& (127 : Int32)) ((0 : Int32) + (7 : Int32)))) ||| (jshl (y2 &&& (127 : Int32)) (((0 : Int32) + (7 : Int32)) + (7 : Int32)))) ||| (jshl (y3 &&& (127 : Int32)) ((((0 : Int32) + (7 : Int32)) + (7 : Int32)) + (7 : Int32)))) = own_rd y0 y1 y2 y3 y4 from (by unfold own_rd; rw [if_pos hc42, if_pos hc43, if_pos hc44, if_neg hc45]))), N0, rfl⟩)) (fun fs hr => retI X0 hx hret (hb hby d2_35) hr)
      · refine go _ (s₁.setTop (mkF m 34 #[.val (.ref a1), .val (.int p1), .val (.int ((((0 : Int32) ||| (jshl (y0 &&& (127 : Int32)) (0 : Int32))) ||| (jshl (y1 &&& (127 : Int32)) ((0 : Int32) + (7 : Int32)))) ||| (jshl (y2 &&& (127 : Int32)) (((0 : Int32) + (7 : Int32)) + (7 : Int32))))), .val (.int ((((0 : Int32) + (7 : Int32)) + (7 : Int32)) + (7 : Int32))), .val (.int (((p1 + (1 : Int32)) + (1 : Int32)) + (1 : Int32))), .val (.int y2)] [])) (fun t k => XS.ifNo X0.here hx rfl (hb hby d2_31) rfl ((if0 _ _).trans (flt hc44).1) k) ?_
        refine go _ (s₁.setTop (mkF m 35 #[.val (.ref a1), .val (.int p1), .val (.int ((((0 : Int32) ||| (jshl (y0 &&& (127 : Int32)) (0 : Int32))) ||| (jshl (y1 &&& (127 : Int32)) ((0 : Int32) + (7 : Int32)))) ||| (jshl (y2 &&& (127 : Int32)) (((0 : Int32) + (7 : Int32)) + (7 : Int32))))), .val (.int ((((0 : Int32) + (7 : Int32)) + (7 : Int32)) + (7 : Int32))), .val (.int (((p1 + (1 : Int32)) + (1 : Int32)) + (1 : Int32))), .val (.int y2)] [(.int ((((0 : Int32) ||| (jshl (y0 &&& (127 : Int32)) (0 : Int32))) ||| (jshl (y1 &&& (127 : Int32)) ((0 : Int32) + (7 : Int32)))) ||| (jshl (y2 &&& (127 : Int32)) (((0 : Int32) + (7 : Int32)) + (7 : Int32)))))])) (fun t k => XS.iloadN X0.here hx rfl (hb hby d2_34) rfl k) ?_
        exact fin (some (.int ((((0 : Int32) ||| (jshl (y0 &&& (127 : Int32)) (0 : Int32))) ||| (jshl (y1 &&& (127 : Int32)) ((0 : Int32) + (7 : Int32)))) ||| (jshl (y2 &&& (127 : Int32)) (((0 : Int32) + (7 : Int32)) + (7 : Int32)))))) X0 (by decide) (by decide) (fun q => by cases q) (show Q_rm2 Z a1 p1 f n i y0 y1 y2 y3 y4 h0 n0 _ s₁.heap _ from (by rw [e0]; exact ⟨congrArg some (congrArg Value.int (show ((((0 : Int32) ||| (jshl (y0 &&& (127 : Int32)) (0 : Int32))) ||| (jshl (y1 &&& (127 : Int32)) ((0 : Int32) + (7 : Int32)))) ||| (jshl (y2 &&& (127 : Int32)) (((0 : Int32) + (7 : Int32)) + (7 : Int32)))) = own_rd y0 y1 y2 y3 y4 from (by unfold own_rd; rw [if_pos hc42, if_pos hc43, if_neg hc44]))), N0, rfl⟩)) (fun fs hr => retI X0 hx hret (hb hby d2_35) hr)
    · refine go _ (s₁.setTop (mkF m 34 #[.val (.ref a1), .val (.int p1), .val (.int (((0 : Int32) ||| (jshl (y0 &&& (127 : Int32)) (0 : Int32))) ||| (jshl (y1 &&& (127 : Int32)) ((0 : Int32) + (7 : Int32))))), .val (.int (((0 : Int32) + (7 : Int32)) + (7 : Int32))), .val (.int ((p1 + (1 : Int32)) + (1 : Int32))), .val (.int y1)] [])) (fun t k => XS.ifNo X0.here hx rfl (hb hby d2_31) rfl ((if0 _ _).trans (flt hc43).1) k) ?_
      refine go _ (s₁.setTop (mkF m 35 #[.val (.ref a1), .val (.int p1), .val (.int (((0 : Int32) ||| (jshl (y0 &&& (127 : Int32)) (0 : Int32))) ||| (jshl (y1 &&& (127 : Int32)) ((0 : Int32) + (7 : Int32))))), .val (.int (((0 : Int32) + (7 : Int32)) + (7 : Int32))), .val (.int ((p1 + (1 : Int32)) + (1 : Int32))), .val (.int y1)] [(.int (((0 : Int32) ||| (jshl (y0 &&& (127 : Int32)) (0 : Int32))) ||| (jshl (y1 &&& (127 : Int32)) ((0 : Int32) + (7 : Int32)))))])) (fun t k => XS.iloadN X0.here hx rfl (hb hby d2_34) rfl k) ?_
      exact fin (some (.int (((0 : Int32) ||| (jshl (y0 &&& (127 : Int32)) (0 : Int32))) ||| (jshl (y1 &&& (127 : Int32)) ((0 : Int32) + (7 : Int32)))))) X0 (by decide) (by decide) (fun q => by cases q) (show Q_rm2 Z a1 p1 f n i y0 y1 y2 y3 y4 h0 n0 _ s₁.heap _ from (by rw [e0]; exact ⟨congrArg some (congrArg Value.int (show (((0 : Int32) ||| (jshl (y0 &&& (127 : Int32)) (0 : Int32))) ||| (jshl (y1 &&& (127 : Int32)) ((0 : Int32) + (7 : Int32)))) = own_rd y0 y1 y2 y3 y4 from (by unfold own_rd; rw [if_pos hc42, if_neg hc43]))), N0, rfl⟩)) (fun fs hr => retI X0 hx hret (hb hby d2_35) hr)
  · refine go _ (s₁.setTop (mkF m 34 #[.val (.ref a1), .val (.int p1), .val (.int ((0 : Int32) ||| (jshl (y0 &&& (127 : Int32)) (0 : Int32)))), .val (.int ((0 : Int32) + (7 : Int32))), .val (.int (p1 + (1 : Int32))), .val (.int y0)] [])) (fun t k => XS.ifNo X0.here hx rfl (hb hby d2_31) rfl ((if0 _ _).trans (flt hc42).1) k) ?_
    refine go _ (s₁.setTop (mkF m 35 #[.val (.ref a1), .val (.int p1), .val (.int ((0 : Int32) ||| (jshl (y0 &&& (127 : Int32)) (0 : Int32)))), .val (.int ((0 : Int32) + (7 : Int32))), .val (.int (p1 + (1 : Int32))), .val (.int y0)] [(.int ((0 : Int32) ||| (jshl (y0 &&& (127 : Int32)) (0 : Int32))))])) (fun t k => XS.iloadN X0.here hx rfl (hb hby d2_34) rfl k) ?_
    exact fin (some (.int ((0 : Int32) ||| (jshl (y0 &&& (127 : Int32)) (0 : Int32))))) X0 (by decide) (by decide) (fun q => by cases q) (show Q_rm2 Z a1 p1 f n i y0 y1 y2 y3 y4 h0 n0 _ s₁.heap _ from (by rw [e0]; exact ⟨congrArg some (congrArg Value.int (show ((0 : Int32) ||| (jshl (y0 &&& (127 : Int32)) (0 : Int32))) = own_rd y0 y1 y2 y3 y4 from (by unfold own_rd; rw [if_neg hc42]))), N0, rfl⟩)) (fun fs hr => retI X0 hx hret (hb hby d2_35) hr)
theorem pn_7 : plainName "com/example/keyspace_ledger/keyspaceledger/LengthPrefixReadPinLaw" = true := by first | (simp [plainName, overriddenIn]; done) | decide +kernel
theorem ef_rm0 (m : MethodId) (p1 : Int32) (p2 : Int32) (p3 : Int32) (q1 : Int64) (p4 : Int32) : entryFrame m #[(.int p1), (.int p2), (.int p3), (.long q1), (.int p4)] maxLocals = mkF m 0 #[.val (.int p1), .val (.int p2), .val (.int p3), .val (.long q1), .second, .val (.int p4), .unset, .unset, .unset] [] := by first | (simp [entryFrame, mkF, argsToLocals, Value.category, maxLocals]; done) | rfl
def v_rm0_0 (p1 : Int32) (p2 : Int32) : Int32 := ((jushr p1 (p2 &&& (31 : Int32))) &&& (2147483647 : Int32))
theorem own_ix (p : Int32) : ∃ i : Nat, i ≤ 3 ∧ (p &&& (3 : Int32)).toInt = (i : Int) := by
  have m := c_mask p 3 2 (by decide) (by decide +kernel)
  exact ⟨(p &&& (3 : Int32)).toInt.toNat, by omega, by omega⟩
theorem own_iu {f : Nat → Value} {i : Nat} {y : Int32} (h : ∀ j, ∃ z, f j = .int z) : ∀ j, ∃ z, own_upd f i (.int y) j = .int z := fun j => by
  unfold own_upd
  by_cases q : j = i
  · rw [if_pos q]; exact ⟨_, rfl⟩
  · rw [if_neg q]; exact h j
theorem own_lenpos (p1 p2 : Int32) : 0 ≤ (v_rm0_0 p1 p2).toInt := by
  have m := c_mask (jushr p1 (p2 &&& (31 : Int32))) 2147483647 31 (by decide) (by decide +kernel)
  unfold v_rm0_0
  omega
theorem own_mod256 (x : Int32) : x.toInt % 256 = ((x.toBitVec.toNat % 256 : Nat) : Int) := by
  have a1 : x.toInt = if 2 * x.toBitVec.toNat < 2 ^ 32 then (x.toBitVec.toNat : Int) else (x.toBitVec.toNat : Int) - ((2 ^ 32 : Nat) : Int) := BitVec.toInt_eq_toNat_cond x.toBitVec
  generalize x.toBitVec.toNat = n at *
  split at a1 <;> omega
theorem own_or128 (x : Int32) : (x ||| (128 : Int32)).toInt % 256 = x.toInt % 128 + 128 := by
  have h : ∀ a : Fin 256, (a.val ||| 128) % 256 = a.val % 128 + 128 := by decide +kernel
  have e : (x ||| (128 : Int32)).toBitVec.toNat = x.toBitVec.toNat ||| 128 := by
    show (x.toBitVec ||| (128 : Int32).toBitVec).toNat = _
    rw [BitVec.toNat_or]; rfl
  have t : (x.toBitVec.toNat ||| 128) % 256 = (x.toBitVec.toNat % 256 ||| 128) % 256 := by
    rw [show (256 : Nat) = 2 ^ 8 from rfl, Nat.or_mod_two_pow, Nat.or_mod_two_pow (a := x.toBitVec.toNat % 2 ^ 8), Nat.mod_mod]
  have q := h ⟨x.toBitVec.toNat % 256, Nat.mod_lt _ (by decide)⟩
  have m := own_mod256 x
  rw [own_mod256, e, t, q]
  dsimp only
  omega
theorem own_jb (x : Int32) : (jb x).toInt % 256 = x.toInt % 256 ∧ -128 ≤ (jb x).toInt ∧ (jb x).toInt < 128 := by
  have b := c_i2b x
  have e : (jb x).toInt = x.toInt8.toInt32.toInt := rfl
  omega
theorem own_hi (x : Int32) : jb (x ||| (128 : Int32)) < (0 : Int32) ∧ (jb (x ||| (128 : Int32)) &&& (127 : Int32)).toInt = x.toInt % 128 := by
  have b := own_jb (x ||| (128 : Int32))
  have o := own_or128 x
  have m := c_mask (jb (x ||| (128 : Int32))) 127 7 (by decide) (by decide +kernel)
  have e0 : (0 : Int32).toInt = 0 := by decide
  refine ⟨?_, ?_⟩
  · rw [Int32.lt_iff_toInt_lt, e0]; omega
  · rw [m]; omega
theorem own_lo (x : Int32) (h0 : 0 ≤ x.toInt) (h1 : x.toInt < 128) : ¬ (jb x < (0 : Int32)) ∧ (jb x &&& (127 : Int32)).toInt = x.toInt := by
  have b := own_jb x
  have m := c_mask (jb x) 127 7 (by decide) (by decide +kernel)
  have e0 : (0 : Int32).toInt = 0 := by decide
  refine ⟨?_, ?_⟩
  · rw [Int32.lt_iff_toInt_lt, e0]; omega
  · rw [m]; omega
theorem own_acc (lo d q : Int32) (k : Nat) (hk : q.toBitVec.toNat % 32 = k) (hk2 : k ≤ 31) (P : Int) (hP : P = ((2 ^ k : Nat) : Int)) (h0 : 0 ≤ lo.toInt) (h1 : lo.toInt < P) (h2 : 0 ≤ d.toInt * P) (h3 : d.toInt * P + P ≤ 2147483648) : (lo ||| jshl d q).toInt = lo.toInt + d.toInt * P := by
  have s := c_ishl d q k hk
  rw [← hP] at s
  have r := rng32 (jshl d q)
  have e : (jshl d q).toInt = d.toInt * P := by
    have e' : (jshl d q).toInt = (d <<< (q &&& 31)).toInt := rfl
    rw [e'] at r ⊢
    omega
  have z : (jshl d q).toInt % P = 0 := by rw [e]; exact Int.mul_emod_left _ _
  have o := c_or' lo (jshl d q) k hk2 P hP z h0 h1
  have r2 := rng32 (lo ||| jshl d q)
  rw [e] at o
  omega
theorem own_first (d : Int32) (h0 : 0 ≤ d.toInt) (h1 : d.toInt < 128) : ((0 : Int32) ||| jshl d (0 : Int32)).toInt = d.toInt := by
  have a := own_acc 0 d 0 0 (by decide) (by decide) 1 rfl (by decide) (by decide) (by omega) (by omega)
  have e0 : (0 : Int32).toInt = 0 := by decide
  omega
theorem own_rw {Z : State} {h : Heap} {a : Addr} {n i : Nat} {f : Nat → Value} {y : Int32} (A : AF Z h a .byte n (own_wr f i y)) (hy : 0 ≤ y.toInt) (hf : ∀ j, ∃ z, f j = .int z) :
    ∃ y0 y1 y2 y3 y4 : Int32, own_wr f i y i = .int y0 ∧ own_wr f i y (i + 1) = .int y1 ∧ own_wr f i y (i + 2) = .int y2 ∧ own_wr f i y (i + 3) = .int y3 ∧ own_wr f i y (i + 4) = .int y4 ∧
      ¬ (y0 < (0 : Int32) ∧ y1 < (0 : Int32) ∧ y2 < (0 : Int32) ∧ y3 < (0 : Int32) ∧ y4 < (0 : Int32)) ∧ own_rd y0 y1 y2 y3 y4 = y := by
  have r := rng32 y
  have e128 : (128 : Int32).toInt = 128 := by decide
  obtain ⟨z1, w1⟩ := hf (i + 1)
  obtain ⟨z2, w2⟩ := hf (i + 2)
  obtain ⟨z3, w3⟩ := hf (i + 3)
  obtain ⟨z4, w4⟩ := hf (i + 4)
  have t1 := own_iu7 y
  have t2 := own_iu7 (jushr y 7)
  have t3 := own_iu7 (jushr (jushr y 7) 7)
  have t4 := own_iu7 (jushr (jushr (jushr y 7) 7) 7)
  by_cases c0 : y < (128 : Int32)
  · have d0 := c0
    rw [Int32.lt_iff_toInt_lt, e128] at d0
    have hw : own_wr f i y = (own_upd f i (.int (jb y))) := by unfold own_wr; rw [if_pos c0]
    rw [hw]
    have s0 := own_lo y (by omega) (by omega)
    refine ⟨(jb y), z1, z2, z3, z4, by simp [own_upd], by simp [own_upd, w1], by simp [own_upd, w2], by simp [own_upd, w3], by simp [own_upd, w4], ?_, ?_⟩
    · exact fun q => s0.1 q.1
    · unfold own_rd
      rw [if_neg s0.1]
      have b0 := own_first ((jb y) &&& (127 : Int32)) (by omega) (by omega)
      rw [← Int32.toInt_inj, b0]
      omega
  · have d0 := c0
    rw [Int32.lt_iff_toInt_lt, e128] at d0
    by_cases c1 : (jushr y (7 : Int32)) < (128 : Int32)
    · have d1 := c1
      rw [Int32.lt_iff_toInt_lt, e128] at d1
      have hw : own_wr f i y = (own_upd (own_upd f i (.int (jb (y ||| (128 : Int32))))) (i + 1) (.int (jb (jushr y (7 : Int32))))) := by unfold own_wr; rw [if_neg c0, if_pos c1]
      rw [hw]
      have s0 := own_hi y
      have s1 := own_lo (jushr y (7 : Int32)) (by omega) (by omega)
      refine ⟨(jb (y ||| (128 : Int32))), (jb (jushr y (7 : Int32))), z2, z3, z4, by simp [own_upd], by simp [own_upd], by simp [own_upd, w2], by simp [own_upd, w3], by simp [own_upd, w4], ?_, ?_⟩
      · exact fun q => s1.1 q.2.1
      · unfold own_rd
        rw [if_pos s0.1, if_neg s1.1]
        have b0 := own_first ((jb (y ||| (128 : Int32))) &&& (127 : Int32)) (by omega) (by omega)
        have b1 := own_acc ((0 : Int32) ||| (jshl ((jb (y ||| (128 : Int32))) &&& (127 : Int32)) (0 : Int32))) ((jb (jushr y (7 : Int32))) &&& (127 : Int32)) ((0 : Int32) + (7 : Int32)) 7 (by decide) (by decide) 128 (by decide) (by omega) (by omega) (by omega) (by omega)
        rw [← Int32.toInt_inj, b1]
        omega
    · have d1 := c1
      rw [Int32.lt_iff_toInt_lt, e128] at d1
      by_cases c2 : (jushr (jushr y (7 : Int32)) (7 : Int32)) < (128 : Int32)
      · have d2 := c2
        rw [Int32.lt_iff_toInt_lt, e128] at d2
        have hw : own_wr f i y = (own_upd (own_upd (own_upd f i (.int (jb (y ||| (128 : Int32))))) (i + 1) (.int (jb ((jushr y (7 : Int32)) ||| (128 : Int32))))) (i + 2) (.int (jb (jushr (jushr y (7 : Int32)) (7 : Int32))))) := by unfold own_wr; rw [if_neg c0, if_neg c1, if_pos c2]
        rw [hw]
        have s0 := own_hi y
        have s1 := own_hi (jushr y (7 : Int32))
        have s2 := own_lo (jushr (jushr y (7 : Int32)) (7 : Int32)) (by omega) (by omega)
        refine ⟨(jb (y ||| (128 : Int32))), (jb ((jushr y (7 : Int32)) ||| (128 : Int32))), (jb (jushr (jushr y (7 : Int32)) (7 : Int32))), z3, z4, by simp [own_upd], by simp [own_upd], by simp [own_upd], by simp [own_upd, w3], by simp [own_upd, w4], ?_, ?_⟩
        · exact fun q => s2.1 q.2.2.1
        · unfold own_rd
          rw [if_pos s0.1, if_pos s1.1, if_neg s2.1]
          have b0 := own_first ((jb (y ||| (128 : Int32))) &&& (127 : Int32)) (by omega) (by omega)
          have b1 := own_acc ((0 : Int32) ||| (jshl ((jb (y ||| (128 : Int32))) &&& (127 : Int32)) (0 : Int32))) ((jb ((jushr y (7 : Int32)) ||| (128 : Int32))) &&& (127 : Int32)) ((0 : Int32) + (7 : Int32)) 7 (by decide) (by decide) 128 (by decide) (by omega) (by omega) (by omega) (by omega)
          have b2 := own_acc (((0 : Int32) ||| (jshl ((jb (y ||| (128 : Int32))) &&& (127 : Int32)) (0 : Int32))) ||| (jshl ((jb ((jushr y (7 : Int32)) ||| (128 : Int32))) &&& (127 : Int32)) ((0 : Int32) + (7 : Int32)))) ((jb (jushr (jushr y (7 : Int32)) (7 : Int32))) &&& (127 : Int32)) (((0 : Int32) + (7 : Int32)) + (7 : Int32)) 14 (by decide) (by decide) 16384 (by decide) (by omega) (by omega) (by omega) (by omega)
          rw [← Int32.toInt_inj, b2]
          omega
      · have d2 := c2
        rw [Int32.lt_iff_toInt_lt, e128] at d2
        by_cases c3 : (jushr (jushr (jushr y (7 : Int32)) (7 : Int32)) (7 : Int32)) < (128 : Int32)
        · have d3 := c3
          rw [Int32.lt_iff_toInt_lt, e128] at d3
          have hw : own_wr f i y = (own_upd (own_upd (own_upd (own_upd f i (.int (jb (y ||| (128 : Int32))))) (i + 1) (.int (jb ((jushr y (7 : Int32)) ||| (128 : Int32))))) (i + 2) (.int (jb ((jushr (jushr y (7 : Int32)) (7 : Int32)) ||| (128 : Int32))))) (i + 3) (.int (jb (jushr (jushr (jushr y (7 : Int32)) (7 : Int32)) (7 : Int32))))) := by unfold own_wr; rw [if_neg c0, if_neg c1, if_neg c2, if_pos c3]
          rw [hw]
          have s0 := own_hi y
          have s1 := own_hi (jushr y (7 : Int32))
          have s2 := own_hi (jushr (jushr y (7 : Int32)) (7 : Int32))
          have s3 := own_lo (jushr (jushr (jushr y (7 : Int32)) (7 : Int32)) (7 : Int32)) (by omega) (by omega)
          refine ⟨(jb (y ||| (128 : Int32))), (jb ((jushr y (7 : Int32)) ||| (128 : Int32))), (jb ((jushr (jushr y (7 : Int32)) (7 : Int32)) ||| (128 : Int32))), (jb (jushr (jushr (jushr y (7 : Int32)) (7 : Int32)) (7 : Int32))), z4, by simp [own_upd], by simp [own_upd], by simp [own_upd], by simp [own_upd], by simp [own_upd, w4], ?_, ?_⟩
          · exact fun q => s3.1 q.2.2.2.1
          · unfold own_rd
            rw [if_pos s0.1, if_pos s1.1, if_pos s2.1, if_neg s3.1]
            have b0 := own_first ((jb (y ||| (128 : Int32))) &&& (127 : Int32)) (by omega) (by omega)
            have b1 := own_acc ((0 : Int32) ||| (jshl ((jb (y ||| (128 : Int32))) &&& (127 : Int32)) (0 : Int32))) ((jb ((jushr y (7 : Int32)) ||| (128 : Int32))) &&& (127 : Int32)) ((0 : Int32) + (7 : Int32)) 7 (by decide) (by decide) 128 (by decide) (by omega) (by omega) (by omega) (by omega)
            have b2 := own_acc (((0 : Int32) ||| (jshl ((jb (y ||| (128 : Int32))) &&& (127 : Int32)) (0 : Int32))) ||| (jshl ((jb ((jushr y (7 : Int32)) ||| (128 : Int32))) &&& (127 : Int32)) ((0 : Int32) + (7 : Int32)))) ((jb ((jushr (jushr y (7 : Int32)) (7 : Int32)) ||| (128 : Int32))) &&& (127 : Int32)) (((0 : Int32) + (7 : Int32)) + (7 : Int32)) 14 (by decide) (by decide) 16384 (by decide) (by omega) (by omega) (by omega) (by omega)
            have b3 := own_acc ((((0 : Int32) ||| (jshl ((jb (y ||| (128 : Int32))) &&& (127 : Int32)) (0 : Int32))) ||| (jshl ((jb ((jushr y (7 : Int32)) ||| (128 : Int32))) &&& (127 : Int32)) ((0 : Int32) + (7 : Int32)))) ||| (jshl ((jb ((jushr (jushr y (7 : Int32)) (7 : Int32)) ||| (128 : Int32))) &&& (127 : Int32)) (((0 : Int32) + (7 : Int32)) + (7 : Int32)))) ((jb (jushr (jushr (jushr y (7 : Int32)) (7 : Int32)) (7 : Int32))) &&& (127 : Int32)) ((((0 : Int32) + (7 : Int32)) + (7 : Int32)) + (7 : Int32)) 21 (by decide) (by decide) 2097152 (by decide) (by omega) (by omega) (by omega) (by omega)
            rw [← Int32.toInt_inj, b3]
            omega
        · have d3 := c3
          rw [Int32.lt_iff_toInt_lt, e128] at d3
          have q4 : ((jushr (jushr (jushr (jushr y (7 : Int32)) (7 : Int32)) (7 : Int32)) (7 : Int32))).toInt < 128 := by omega
          have hw : own_wr f i y = (own_upd (own_upd (own_upd (own_upd (own_upd f i (.int (jb (y ||| (128 : Int32))))) (i + 1) (.int (jb ((jushr y (7 : Int32)) ||| (128 : Int32))))) (i + 2) (.int (jb ((jushr (jushr y (7 : Int32)) (7 : Int32)) ||| (128 : Int32))))) (i + 3) (.int (jb ((jushr (jushr (jushr y (7 : Int32)) (7 : Int32)) (7 : Int32)) ||| (128 : Int32))))) (i + 4) (.int (jb (jushr (jushr (jushr (jushr y (7 : Int32)) (7 : Int32)) (7 : Int32)) (7 : Int32))))) := by unfold own_wr; rw [if_neg c0, if_neg c1, if_neg c2, if_neg c3]
          rw [hw]
          have s0 := own_hi y
          have s1 := own_hi (jushr y (7 : Int32))
          have s2 := own_hi (jushr (jushr y (7 : Int32)) (7 : Int32))
          have s3 := own_hi (jushr (jushr (jushr y (7 : Int32)) (7 : Int32)) (7 : Int32))
          have s4 := own_lo (jushr (jushr (jushr (jushr y (7 : Int32)) (7 : Int32)) (7 : Int32)) (7 : Int32)) (by omega) (by omega)
          refine ⟨(jb (y ||| (128 : Int32))), (jb ((jushr y (7 : Int32)) ||| (128 : Int32))), (jb ((jushr (jushr y (7 : Int32)) (7 : Int32)) ||| (128 : Int32))), (jb ((jushr (jushr (jushr y (7 : Int32)) (7 : Int32)) (7 : Int32)) ||| (128 : Int32))), (jb (jushr (jushr (jushr (jushr y (7 : Int32)) (7 : Int32)) (7 : Int32)) (7 : Int32))), by simp [own_upd], by simp [own_upd], by simp [own_upd], by simp [own_upd], by simp [own_upd], ?_, ?_⟩
          · exact fun q => s4.1 q.2.2.2.2
          · unfold own_rd
            rw [if_pos s0.1, if_pos s1.1, if_pos s2.1, if_pos s3.1]
            have b0 := own_first ((jb (y ||| (128 : Int32))) &&& (127 : Int32)) (by omega) (by omega)
            have b1 := own_acc ((0 : Int32) ||| (jshl ((jb (y ||| (128 : Int32))) &&& (127 : Int32)) (0 : Int32))) ((jb ((jushr y (7 : Int32)) ||| (128 : Int32))) &&& (127 : Int32)) ((0 : Int32) + (7 : Int32)) 7 (by decide) (by decide) 128 (by decide) (by omega) (by omega) (by omega) (by omega)
            have b2 := own_acc (((0 : Int32) ||| (jshl ((jb (y ||| (128 : Int32))) &&& (127 : Int32)) (0 : Int32))) ||| (jshl ((jb ((jushr y (7 : Int32)) ||| (128 : Int32))) &&& (127 : Int32)) ((0 : Int32) + (7 : Int32)))) ((jb ((jushr (jushr y (7 : Int32)) (7 : Int32)) ||| (128 : Int32))) &&& (127 : Int32)) (((0 : Int32) + (7 : Int32)) + (7 : Int32)) 14 (by decide) (by decide) 16384 (by decide) (by omega) (by omega) (by omega) (by omega)
            have b3 := own_acc ((((0 : Int32) ||| (jshl ((jb (y ||| (128 : Int32))) &&& (127 : Int32)) (0 : Int32))) ||| (jshl ((jb ((jushr y (7 : Int32)) ||| (128 : Int32))) &&& (127 : Int32)) ((0 : Int32) + (7 : Int32)))) ||| (jshl ((jb ((jushr (jushr y (7 : Int32)) (7 : Int32)) ||| (128 : Int32))) &&& (127 : Int32)) (((0 : Int32) + (7 : Int32)) + (7 : Int32)))) ((jb ((jushr (jushr (jushr y (7 : Int32)) (7 : Int32)) (7 : Int32)) ||| (128 : Int32))) &&& (127 : Int32)) ((((0 : Int32) + (7 : Int32)) + (7 : Int32)) + (7 : Int32)) 21 (by decide) (by decide) 2097152 (by decide) (by omega) (by omega) (by omega) (by omega)
            have b4 := own_acc (((((0 : Int32) ||| (jshl ((jb (y ||| (128 : Int32))) &&& (127 : Int32)) (0 : Int32))) ||| (jshl ((jb ((jushr y (7 : Int32)) ||| (128 : Int32))) &&& (127 : Int32)) ((0 : Int32) + (7 : Int32)))) ||| (jshl ((jb ((jushr (jushr y (7 : Int32)) (7 : Int32)) ||| (128 : Int32))) &&& (127 : Int32)) (((0 : Int32) + (7 : Int32)) + (7 : Int32)))) ||| (jshl ((jb ((jushr (jushr (jushr y (7 : Int32)) (7 : Int32)) (7 : Int32)) ||| (128 : Int32))) &&& (127 : Int32)) ((((0 : Int32) + (7 : Int32)) + (7 : Int32)) + (7 : Int32)))) ((jb (jushr (jushr (jushr (jushr y (7 : Int32)) (7 : Int32)) (7 : Int32)) (7 : Int32))) &&& (127 : Int32)) (((((0 : Int32) + (7 : Int32)) + (7 : Int32)) + (7 : Int32)) + (7 : Int32)) 28 (by decide) (by decide) 268435456 (by decide) (by omega) (by omega) (by omega) (by omega)
            rw [← Int32.toInt_inj, b4]
            omega
def Q_rm0 (Z : State) (p1 : Int32) (p2 : Int32) (p3 : Int32) (q1 : Int64) (p4 : Int32) (h0 : Heap) (n0 : Nat) (v : Option Value) (h : Heap) (L : List Loc) : Prop := v = some (.int (1 : Int32)) ∧ Fr n0 L
set_option maxRecDepth 65536 in
set_option maxHeartbeats 40000000 in
theorem rm0 (l : Launch) (Z : State) (a0 : Array Value) (hw : ∀ d ∈ tables_1, d.before a0 Z = true) (ws : List Jvm.Cond) (p1 : Int32) (p2 : Int32) (p3 : Int32) (q1 : Int64) (p4 : Int32) (h0 : Heap) (n0 : Nat) (Z0 : n0 ≤ h0.size)  :
    MetFree l x (head1 (Jvm.Cond.code x code maxLocals ret :: ws) room_1) (fun a U => a = #[(.int p1), (.int p2), (.int p3), (.long q1), (.int p4)] ∧ Z.Warmed39 U.vm ∧ U.heap = h0) (fun _ _ _ _ _ => True) (fun _ U o U' => ∃ v L, o = .returned v ∧ Q_rm0 Z p1 p2 p3 q1 p4 h0 n0 v U'.heap L ∧ FrameEnd U o U' L room_1.cells room_1.slots) := by
  refine own_body (Q := Q_rm0 Z p1 p2 p3 q1 p4 h0 n0) (plainFor_of_name pn_7) ?_
  intro p e s m below meth c s₁ K go fin X0 hx hby hml hown hnm hret hZ e0
  have hown : s.vm.findClass "com/example/keyspace_ledger/keyspaceledger/LengthPrefixReadPinLaw" = some m.cls := hown
  have N0 := Fr.nil n0
  refine go _ (s₁.setTop (mkF m 0 #[.val (.int p1), .val (.int p2), .val (.int p3), .val (.long q1), .second, .val (.int p4), .unset, .unset, .unset] [])) (fun t k => castTop (ef_rm0 m p1 p2 p3 q1 p4) k) ?_
  obtain ⟨i, hi, hj⟩ := own_ix p3
  refine go _ (s₁.setTop (mkF m 2 #[.val (.int p1), .val (.int p2), .val (.int p3), .val (.long q1), .second, .val (.int p4), .unset, .unset, .unset] [(.int (12 : Int32))])) (fun t k => XS.bipush X0.here hx rfl (hb hby at_0) k) ?_
  obtain ⟨T47, h47, b47, X47, e47, E47, g47, A47, st47⟩ := own_new X0 hx hZ (hw _ (List.mem_of_getElem? (i := 0) rfl)) e0 (g := (mkF m 2 #[.val (.int p1), .val (.int p2), .val (.int p3), .val (.long q1), .second, .val (.int p4), .unset, .unset, .unset] [(.int (12 : Int32))])) rfl (hb hby at_2) rfl (k := 12) (by decide) 12 (by decide) (by decide) (by decide) (by decide)
  have Z48 : n0 ≤ h47.size := Nat.le_trans Z0 E47.1
  have ge_b47 : n0 ≤ b47 := by rw [g47]; exact Z0
  have A47' : AF Z h47 b47 .byte 12 (fun _ => .int 0) := A47
  refine go _ (T47.setTop (mkF m 4 #[.val (.int p1), .val (.int p2), .val (.int p3), .val (.long q1), .second, .val (.int p4), .unset, .unset, .unset] [(.ref b47)])) (st47) ?_
  refine go _ (T47.setTop (mkF m 6 #[.val (.int p1), .val (.int p2), .val (.int p3), .val (.long q1), .second, .val (.int p4), .val (.ref b47), .unset, .unset] [])) (fun t k => XS.astore X47.here hx rfl (hb hby at_4) rfl rfl (l' := #[.val (.int p1), .val (.int p2), .val (.int p3), .val (.long q1), .second, .val (.int p4), .val (.ref b47), .unset, .unset]) rfl k) ?_
  refine go _ (T47.setTop (mkF m 8 #[.val (.int p1), .val (.int p2), .val (.int p3), .val (.long q1), .second, .val (.int p4), .val (.ref b47), .unset, .unset] [(.ref b47)])) (fun t k => XS.aload X47.here hx rfl (hb hby at_6) rfl rfl k) ?_
  refine go _ (T47.setTop (mkF m 9 #[.val (.int p1), .val (.int p2), .val (.int p3), .val (.long q1), .second, .val (.int p4), .val (.ref b47), .unset, .unset] [(.int (0 : Int32)), (.ref b47)])) (fun t k => XS.iconst X47.here hx rfl (hb hby at_8) k) ?_
  refine go _ (T47.setTop (mkF m 10 #[.val (.int p1), .val (.int p2), .val (.int p3), .val (.long q1), .second, .val (.int p4), .val (.ref b47), .unset, .unset] [(.long q1), (.int (0 : Int32)), (.ref b47)])) (fun t k => XS.lloadN X47.here hx rfl (hb hby at_9) rfl k) ?_
  refine go _ (T47.setTop (mkF m 11 #[.val (.int p1), .val (.int p2), .val (.int p3), .val (.long q1), .second, .val (.int p4), .val (.ref b47), .unset, .unset] [(.int (q1.toInt32)), (.int (0 : Int32)), (.ref b47)])) (fun t k => XS.l2i X47.here hx rfl (hb hby at_10) rfl k) ?_
  refine go _ (T47.setTop (mkF m 12 #[.val (.int p1), .val (.int p2), .val (.int p3), .val (.long q1), .second, .val (.int p4), .val (.ref b47), .unset, .unset] [(.int (jb (q1.toInt32))), (.int (0 : Int32)), (.ref b47)])) (fun t k => XS.i2b X47.here hx rfl (hb hby at_11) rfl k) ?_
  obtain ⟨T49, h49, X49, e49, W49, A49, st49⟩ := own_stB X47 hx hZ e47 A47' (i := 0) (by decide) (by decide) (own_narb (q1.toInt32)) (g := (mkF m 12 #[.val (.int p1), .val (.int p2), .val (.int p3), .val (.long q1), .second, .val (.int p4), .val (.ref b47), .unset, .unset] [(.int (jb (q1.toInt32))), (.int (0 : Int32)), (.ref b47)])) rfl rfl (hb hby at_12)
  have Z50 : n0 ≤ h49.size := by rw [W49.size]; exact Z48
  have N51 := Fr.snoc X49 N0 ge_b47
  refine go _ (T49.setTop (mkF m 13 #[.val (.int p1), .val (.int p2), .val (.int p3), .val (.long q1), .second, .val (.int p4), .val (.ref b47), .unset, .unset] [])) (st49) ?_
  refine go _ (T49.setTop (mkF m 15 #[.val (.int p1), .val (.int p2), .val (.int p3), .val (.long q1), .second, .val (.int p4), .val (.ref b47), .unset, .unset] [(.ref b47)])) (fun t k => XS.aload X49.here hx rfl (hb hby at_13) rfl rfl k) ?_
  refine go _ (T49.setTop (mkF m 16 #[.val (.int p1), .val (.int p2), .val (.int p3), .val (.long q1), .second, .val (.int p4), .val (.ref b47), .unset, .unset] [(.int (1 : Int32)), (.ref b47)])) (fun t k => XS.iconst X49.here hx rfl (hb hby at_15) k) ?_
  refine go _ (T49.setTop (mkF m 17 #[.val (.int p1), .val (.int p2), .val (.int p3), .val (.long q1), .second, .val (.int p4), .val (.ref b47), .unset, .unset] [(.long q1), (.int (1 : Int32)), (.ref b47)])) (fun t k => XS.lloadN X49.here hx rfl (hb hby at_16) rfl k) ?_
  refine go _ (T49.setTop (mkF m 19 #[.val (.int p1), .val (.int p2), .val (.int p3), .val (.long q1), .second, .val (.int p4), .val (.ref b47), .unset, .unset] [(.int (8 : Int32)), (.long q1), (.int (1 : Int32)), (.ref b47)])) (fun t k => XS.bipush X49.here hx rfl (hb hby at_17) k) ?_
  refine go _ (T49.setTop (mkF m 20 #[.val (.int p1), .val (.int p2), .val (.int p3), .val (.long q1), .second, .val (.int p4), .val (.ref b47), .unset, .unset] [(.long (jushrL q1 (8 : Int32))), (.int (1 : Int32)), (.ref b47)])) (fun t k => XS.lushr X49.here hx rfl (hb hby at_19) rfl k) ?_
  refine go _ (T49.setTop (mkF m 21 #[.val (.int p1), .val (.int p2), .val (.int p3), .val (.long q1), .second, .val (.int p4), .val (.ref b47), .unset, .unset] [(.int ((jushrL q1 (8 : Int32)).toInt32)), (.int (1 : Int32)), (.ref b47)])) (fun t k => XS.l2i X49.here hx rfl (hb hby at_20) rfl k) ?_
  refine go _ (T49.setTop (mkF m 22 #[.val (.int p1), .val (.int p2), .val (.int p3), .val (.long q1), .second, .val (.int p4), .val (.ref b47), .unset, .unset] [(.int (jb ((jushrL q1 (8 : Int32)).toInt32))), (.int (1 : Int32)), (.ref b47)])) (fun t k => XS.i2b X49.here hx rfl (hb hby at_21) rfl k) ?_
  obtain ⟨T52, h52, X52, e52, W52, A52, st52⟩ := own_stB X49 hx hZ e49 A49 (i := 1) (by decide) (by decide) (own_narb ((jushrL q1 (8 : Int32)).toInt32)) (g := (mkF m 22 #[.val (.int p1), .val (.int p2), .val (.int p3), .val (.long q1), .second, .val (.int p4), .val (.ref b47), .unset, .unset] [(.int (jb ((jushrL q1 (8 : Int32)).toInt32))), (.int (1 : Int32)), (.ref b47)])) rfl rfl (hb hby at_22)
  have Z53 : n0 ≤ h52.size := by rw [W52.size]; exact Z50
  have N54 := Fr.snoc X52 N51 ge_b47
  refine go _ (T52.setTop (mkF m 23 #[.val (.int p1), .val (.int p2), .val (.int p3), .val (.long q1), .second, .val (.int p4), .val (.ref b47), .unset, .unset] [])) (st52) ?_
  refine go _ (T52.setTop (mkF m 25 #[.val (.int p1), .val (.int p2), .val (.int p3), .val (.long q1), .second, .val (.int p4), .val (.ref b47), .unset, .unset] [(.ref b47)])) (fun t k => XS.aload X52.here hx rfl (hb hby at_23) rfl rfl k) ?_
  refine go _ (T52.setTop (mkF m 26 #[.val (.int p1), .val (.int p2), .val (.int p3), .val (.long q1), .second, .val (.int p4), .val (.ref b47), .unset, .unset] [(.int (2 : Int32)), (.ref b47)])) (fun t k => XS.iconst X52.here hx rfl (hb hby at_25) k) ?_
  refine go _ (T52.setTop (mkF m 27 #[.val (.int p1), .val (.int p2), .val (.int p3), .val (.long q1), .second, .val (.int p4), .val (.ref b47), .unset, .unset] [(.long q1), (.int (2 : Int32)), (.ref b47)])) (fun t k => XS.lloadN X52.here hx rfl (hb hby at_26) rfl k) ?_
  refine go _ (T52.setTop (mkF m 29 #[.val (.int p1), .val (.int p2), .val (.int p3), .val (.long q1), .second, .val (.int p4), .val (.ref b47), .unset, .unset] [(.int (16 : Int32)), (.long q1), (.int (2 : Int32)), (.ref b47)])) (fun t k => XS.bipush X52.here hx rfl (hb hby at_27) k) ?_
  refine go _ (T52.setTop (mkF m 30 #[.val (.int p1), .val (.int p2), .val (.int p3), .val (.long q1), .second, .val (.int p4), .val (.ref b47), .unset, .unset] [(.long (jushrL q1 (16 : Int32))), (.int (2 : Int32)), (.ref b47)])) (fun t k => XS.lushr X52.here hx rfl (hb hby at_29) rfl k) ?_
  refine go _ (T52.setTop (mkF m 31 #[.val (.int p1), .val (.int p2), .val (.int p3), .val (.long q1), .second, .val (.int p4), .val (.ref b47), .unset, .unset] [(.int ((jushrL q1 (16 : Int32)).toInt32)), (.int (2 : Int32)), (.ref b47)])) (fun t k => XS.l2i X52.here hx rfl (hb hby at_30) rfl k) ?_
  refine go _ (T52.setTop (mkF m 32 #[.val (.int p1), .val (.int p2), .val (.int p3), .val (.long q1), .second, .val (.int p4), .val (.ref b47), .unset, .unset] [(.int (jb ((jushrL q1 (16 : Int32)).toInt32))), (.int (2 : Int32)), (.ref b47)])) (fun t k => XS.i2b X52.here hx rfl (hb hby at_31) rfl k) ?_
  obtain ⟨T55, h55, X55, e55, W55, A55, st55⟩ := own_stB X52 hx hZ e52 A52 (i := 2) (by decide) (by decide) (own_narb ((jushrL q1 (16 : Int32)).toInt32)) (g := (mkF m 32 #[.val (.int p1), .val (.int p2), .val (.int p3), .val (.long q1), .second, .val (.int p4), .val (.ref b47), .unset, .unset] [(.int (jb ((jushrL q1 (16 : Int32)).toInt32))), (.int (2 : Int32)), (.ref b47)])) rfl rfl (hb hby at_32)
  have Z56 : n0 ≤ h55.size := by rw [W55.size]; exact Z53
  have N57 := Fr.snoc X55 N54 ge_b47
  refine go _ (T55.setTop (mkF m 33 #[.val (.int p1), .val (.int p2), .val (.int p3), .val (.long q1), .second, .val (.int p4), .val (.ref b47), .unset, .unset] [])) (st55) ?_
  refine go _ (T55.setTop (mkF m 35 #[.val (.int p1), .val (.int p2), .val (.int p3), .val (.long q1), .second, .val (.int p4), .val (.ref b47), .unset, .unset] [(.ref b47)])) (fun t k => XS.aload X55.here hx rfl (hb hby at_33) rfl rfl k) ?_
  refine go _ (T55.setTop (mkF m 36 #[.val (.int p1), .val (.int p2), .val (.int p3), .val (.long q1), .second, .val (.int p4), .val (.ref b47), .unset, .unset] [(.int (3 : Int32)), (.ref b47)])) (fun t k => XS.iconst X55.here hx rfl (hb hby at_35) k) ?_
  refine go _ (T55.setTop (mkF m 37 #[.val (.int p1), .val (.int p2), .val (.int p3), .val (.long q1), .second, .val (.int p4), .val (.ref b47), .unset, .unset] [(.long q1), (.int (3 : Int32)), (.ref b47)])) (fun t k => XS.lloadN X55.here hx rfl (hb hby at_36) rfl k) ?_
  refine go _ (T55.setTop (mkF m 39 #[.val (.int p1), .val (.int p2), .val (.int p3), .val (.long q1), .second, .val (.int p4), .val (.ref b47), .unset, .unset] [(.int (24 : Int32)), (.long q1), (.int (3 : Int32)), (.ref b47)])) (fun t k => XS.bipush X55.here hx rfl (hb hby at_37) k) ?_
  refine go _ (T55.setTop (mkF m 40 #[.val (.int p1), .val (.int p2), .val (.int p3), .val (.long q1), .second, .val (.int p4), .val (.ref b47), .unset, .unset] [(.long (jushrL q1 (24 : Int32))), (.int (3 : Int32)), (.ref b47)])) (fun t k => XS.lushr X55.here hx rfl (hb hby at_39) rfl k) ?_
  refine go _ (T55.setTop (mkF m 41 #[.val (.int p1), .val (.int p2), .val (.int p3), .val (.long q1), .second, .val (.int p4), .val (.ref b47), .unset, .unset] [(.int ((jushrL q1 (24 : Int32)).toInt32)), (.int (3 : Int32)), (.ref b47)])) (fun t k => XS.l2i X55.here hx rfl (hb hby at_40) rfl k) ?_
  refine go _ (T55.setTop (mkF m 42 #[.val (.int p1), .val (.int p2), .val (.int p3), .val (.long q1), .second, .val (.int p4), .val (.ref b47), .unset, .unset] [(.int (jb ((jushrL q1 (24 : Int32)).toInt32))), (.int (3 : Int32)), (.ref b47)])) (fun t k => XS.i2b X55.here hx rfl (hb hby at_41) rfl k) ?_
  obtain ⟨T58, h58, X58, e58, W58, A58, st58⟩ := own_stB X55 hx hZ e55 A55 (i := 3) (by decide) (by decide) (own_narb ((jushrL q1 (24 : Int32)).toInt32)) (g := (mkF m 42 #[.val (.int p1), .val (.int p2), .val (.int p3), .val (.long q1), .second, .val (.int p4), .val (.ref b47), .unset, .unset] [(.int (jb ((jushrL q1 (24 : Int32)).toInt32))), (.int (3 : Int32)), (.ref b47)])) rfl rfl (hb hby at_42)
  have Z59 : n0 ≤ h58.size := by rw [W58.size]; exact Z56
  have N60 := Fr.snoc X58 N57 ge_b47
  refine go _ (T58.setTop (mkF m 43 #[.val (.int p1), .val (.int p2), .val (.int p3), .val (.long q1), .second, .val (.int p4), .val (.ref b47), .unset, .unset] [])) (st58) ?_
  refine go _ (T58.setTop (mkF m 45 #[.val (.int p1), .val (.int p2), .val (.int p3), .val (.long q1), .second, .val (.int p4), .val (.ref b47), .unset, .unset] [(.ref b47)])) (fun t k => XS.aload X58.here hx rfl (hb hby at_43) rfl rfl k) ?_
  refine go _ (T58.setTop (mkF m 46 #[.val (.int p1), .val (.int p2), .val (.int p3), .val (.long q1), .second, .val (.int p4), .val (.ref b47), .unset, .unset] [(.int (4 : Int32)), (.ref b47)])) (fun t k => XS.iconst X58.here hx rfl (hb hby at_45) k) ?_
  refine go _ (T58.setTop (mkF m 47 #[.val (.int p1), .val (.int p2), .val (.int p3), .val (.long q1), .second, .val (.int p4), .val (.ref b47), .unset, .unset] [(.long q1), (.int (4 : Int32)), (.ref b47)])) (fun t k => XS.lloadN X58.here hx rfl (hb hby at_46) rfl k) ?_
  refine go _ (T58.setTop (mkF m 49 #[.val (.int p1), .val (.int p2), .val (.int p3), .val (.long q1), .second, .val (.int p4), .val (.ref b47), .unset, .unset] [(.int (32 : Int32)), (.long q1), (.int (4 : Int32)), (.ref b47)])) (fun t k => XS.bipush X58.here hx rfl (hb hby at_47) k) ?_
  refine go _ (T58.setTop (mkF m 50 #[.val (.int p1), .val (.int p2), .val (.int p3), .val (.long q1), .second, .val (.int p4), .val (.ref b47), .unset, .unset] [(.long (jushrL q1 (32 : Int32))), (.int (4 : Int32)), (.ref b47)])) (fun t k => XS.lushr X58.here hx rfl (hb hby at_49) rfl k) ?_
  refine go _ (T58.setTop (mkF m 51 #[.val (.int p1), .val (.int p2), .val (.int p3), .val (.long q1), .second, .val (.int p4), .val (.ref b47), .unset, .unset] [(.int ((jushrL q1 (32 : Int32)).toInt32)), (.int (4 : Int32)), (.ref b47)])) (fun t k => XS.l2i X58.here hx rfl (hb hby at_50) rfl k) ?_
  refine go _ (T58.setTop (mkF m 52 #[.val (.int p1), .val (.int p2), .val (.int p3), .val (.long q1), .second, .val (.int p4), .val (.ref b47), .unset, .unset] [(.int (jb ((jushrL q1 (32 : Int32)).toInt32))), (.int (4 : Int32)), (.ref b47)])) (fun t k => XS.i2b X58.here hx rfl (hb hby at_51) rfl k) ?_
  obtain ⟨T61, h61, X61, e61, W61, A61, st61⟩ := own_stB X58 hx hZ e58 A58 (i := 4) (by decide) (by decide) (own_narb ((jushrL q1 (32 : Int32)).toInt32)) (g := (mkF m 52 #[.val (.int p1), .val (.int p2), .val (.int p3), .val (.long q1), .second, .val (.int p4), .val (.ref b47), .unset, .unset] [(.int (jb ((jushrL q1 (32 : Int32)).toInt32))), (.int (4 : Int32)), (.ref b47)])) rfl rfl (hb hby at_52)
  have Z62 : n0 ≤ h61.size := by rw [W61.size]; exact Z59
  have N63 := Fr.snoc X61 N60 ge_b47
  refine go _ (T61.setTop (mkF m 53 #[.val (.int p1), .val (.int p2), .val (.int p3), .val (.long q1), .second, .val (.int p4), .val (.ref b47), .unset, .unset] [])) (st61) ?_
  refine go _ (T61.setTop (mkF m 55 #[.val (.int p1), .val (.int p2), .val (.int p3), .val (.long q1), .second, .val (.int p4), .val (.ref b47), .unset, .unset] [(.ref b47)])) (fun t k => XS.aload X61.here hx rfl (hb hby at_53) rfl rfl k) ?_
  refine go _ (T61.setTop (mkF m 56 #[.val (.int p1), .val (.int p2), .val (.int p3), .val (.long q1), .second, .val (.int p4), .val (.ref b47), .unset, .unset] [(.int (5 : Int32)), (.ref b47)])) (fun t k => XS.iconst X61.here hx rfl (hb hby at_55) k) ?_
  refine go _ (T61.setTop (mkF m 57 #[.val (.int p1), .val (.int p2), .val (.int p3), .val (.long q1), .second, .val (.int p4), .val (.ref b47), .unset, .unset] [(.long q1), (.int (5 : Int32)), (.ref b47)])) (fun t k => XS.lloadN X61.here hx rfl (hb hby at_56) rfl k) ?_
  refine go _ (T61.setTop (mkF m 59 #[.val (.int p1), .val (.int p2), .val (.int p3), .val (.long q1), .second, .val (.int p4), .val (.ref b47), .unset, .unset] [(.int (40 : Int32)), (.long q1), (.int (5 : Int32)), (.ref b47)])) (fun t k => XS.bipush X61.here hx rfl (hb hby at_57) k) ?_
  refine go _ (T61.setTop (mkF m 60 #[.val (.int p1), .val (.int p2), .val (.int p3), .val (.long q1), .second, .val (.int p4), .val (.ref b47), .unset, .unset] [(.long (jushrL q1 (40 : Int32))), (.int (5 : Int32)), (.ref b47)])) (fun t k => XS.lushr X61.here hx rfl (hb hby at_59) rfl k) ?_
  refine go _ (T61.setTop (mkF m 61 #[.val (.int p1), .val (.int p2), .val (.int p3), .val (.long q1), .second, .val (.int p4), .val (.ref b47), .unset, .unset] [(.int ((jushrL q1 (40 : Int32)).toInt32)), (.int (5 : Int32)), (.ref b47)])) (fun t k => XS.l2i X61.here hx rfl (hb hby at_60) rfl k) ?_
  refine go _ (T61.setTop (mkF m 62 #[.val (.int p1), .val (.int p2), .val (.int p3), .val (.long q1), .second, .val (.int p4), .val (.ref b47), .unset, .unset] [(.int (jb ((jushrL q1 (40 : Int32)).toInt32))), (.int (5 : Int32)), (.ref b47)])) (fun t k => XS.i2b X61.here hx rfl (hb hby at_61) rfl k) ?_
  obtain ⟨T64, h64, X64, e64, W64, A64, st64⟩ := own_stB X61 hx hZ e61 A61 (i := 5) (by decide) (by decide) (own_narb ((jushrL q1 (40 : Int32)).toInt32)) (g := (mkF m 62 #[.val (.int p1), .val (.int p2), .val (.int p3), .val (.long q1), .second, .val (.int p4), .val (.ref b47), .unset, .unset] [(.int (jb ((jushrL q1 (40 : Int32)).toInt32))), (.int (5 : Int32)), (.ref b47)])) rfl rfl (hb hby at_62)
  have Z65 : n0 ≤ h64.size := by rw [W64.size]; exact Z62
  have N66 := Fr.snoc X64 N63 ge_b47
  refine go _ (T64.setTop (mkF m 63 #[.val (.int p1), .val (.int p2), .val (.int p3), .val (.long q1), .second, .val (.int p4), .val (.ref b47), .unset, .unset] [])) (st64) ?_
  refine go _ (T64.setTop (mkF m 65 #[.val (.int p1), .val (.int p2), .val (.int p3), .val (.long q1), .second, .val (.int p4), .val (.ref b47), .unset, .unset] [(.ref b47)])) (fun t k => XS.aload X64.here hx rfl (hb hby at_63) rfl rfl k) ?_
  refine go _ (T64.setTop (mkF m 67 #[.val (.int p1), .val (.int p2), .val (.int p3), .val (.long q1), .second, .val (.int p4), .val (.ref b47), .unset, .unset] [(.int (6 : Int32)), (.ref b47)])) (fun t k => XS.bipush X64.here hx rfl (hb hby at_65) k) ?_
  refine go _ (T64.setTop (mkF m 68 #[.val (.int p1), .val (.int p2), .val (.int p3), .val (.long q1), .second, .val (.int p4), .val (.ref b47), .unset, .unset] [(.long q1), (.int (6 : Int32)), (.ref b47)])) (fun t k => XS.lloadN X64.here hx rfl (hb hby at_67) rfl k) ?_
  refine go _ (T64.setTop (mkF m 70 #[.val (.int p1), .val (.int p2), .val (.int p3), .val (.long q1), .second, .val (.int p4), .val (.ref b47), .unset, .unset] [(.int (48 : Int32)), (.long q1), (.int (6 : Int32)), (.ref b47)])) (fun t k => XS.bipush X64.here hx rfl (hb hby at_68) k) ?_
  refine go _ (T64.setTop (mkF m 71 #[.val (.int p1), .val (.int p2), .val (.int p3), .val (.long q1), .second, .val (.int p4), .val (.ref b47), .unset, .unset] [(.long (jushrL q1 (48 : Int32))), (.int (6 : Int32)), (.ref b47)])) (fun t k => XS.lushr X64.here hx rfl (hb hby at_70) rfl k) ?_
  refine go _ (T64.setTop (mkF m 72 #[.val (.int p1), .val (.int p2), .val (.int p3), .val (.long q1), .second, .val (.int p4), .val (.ref b47), .unset, .unset] [(.int ((jushrL q1 (48 : Int32)).toInt32)), (.int (6 : Int32)), (.ref b47)])) (fun t k => XS.l2i X64.here hx rfl (hb hby at_71) rfl k) ?_
  refine go _ (T64.setTop (mkF m 73 #[.val (.int p1), .val (.int p2), .val (.int p3), .val (.long q1), .second, .val (.int p4), .val (.ref b47), .unset, .unset] [(.int (jb ((jushrL q1 (48 : Int32)).toInt32))), (.int (6 : Int32)), (.ref b47)])) (fun t k => XS.i2b X64.here hx rfl (hb hby at_72) rfl k) ?_
  obtain ⟨T67, h67, X67, e67, W67, A67, st67⟩ := own_stB X64 hx hZ e64 A64 (i := 6) (by decide) (by decide) (own_narb ((jushrL q1 (48 : Int32)).toInt32)) (g := (mkF m 73 #[.val (.int p1), .val (.int p2), .val (.int p3), .val (.long q1), .second, .val (.int p4), .val (.ref b47), .unset, .unset] [(.int (jb ((jushrL q1 (48 : Int32)).toInt32))), (.int (6 : Int32)), (.ref b47)])) rfl rfl (hb hby at_73)
  have Z68 : n0 ≤ h67.size := by rw [W67.size]; exact Z65
  have N69 := Fr.snoc X67 N66 ge_b47
  refine go _ (T67.setTop (mkF m 74 #[.val (.int p1), .val (.int p2), .val (.int p3), .val (.long q1), .second, .val (.int p4), .val (.ref b47), .unset, .unset] [])) (st67) ?_
  refine go _ (T67.setTop (mkF m 76 #[.val (.int p1), .val (.int p2), .val (.int p3), .val (.long q1), .second, .val (.int p4), .val (.ref b47), .unset, .unset] [(.ref b47)])) (fun t k => XS.aload X67.here hx rfl (hb hby at_74) rfl rfl k) ?_
  refine go _ (T67.setTop (mkF m 78 #[.val (.int p1), .val (.int p2), .val (.int p3), .val (.long q1), .second, .val (.int p4), .val (.ref b47), .unset, .unset] [(.int (7 : Int32)), (.ref b47)])) (fun t k => XS.bipush X67.here hx rfl (hb hby at_76) k) ?_
  refine go _ (T67.setTop (mkF m 79 #[.val (.int p1), .val (.int p2), .val (.int p3), .val (.long q1), .second, .val (.int p4), .val (.ref b47), .unset, .unset] [(.long q1), (.int (7 : Int32)), (.ref b47)])) (fun t k => XS.lloadN X67.here hx rfl (hb hby at_78) rfl k) ?_
  refine go _ (T67.setTop (mkF m 81 #[.val (.int p1), .val (.int p2), .val (.int p3), .val (.long q1), .second, .val (.int p4), .val (.ref b47), .unset, .unset] [(.int (56 : Int32)), (.long q1), (.int (7 : Int32)), (.ref b47)])) (fun t k => XS.bipush X67.here hx rfl (hb hby at_79) k) ?_
  refine go _ (T67.setTop (mkF m 82 #[.val (.int p1), .val (.int p2), .val (.int p3), .val (.long q1), .second, .val (.int p4), .val (.ref b47), .unset, .unset] [(.long (jushrL q1 (56 : Int32))), (.int (7 : Int32)), (.ref b47)])) (fun t k => XS.lushr X67.here hx rfl (hb hby at_81) rfl k) ?_
  refine go _ (T67.setTop (mkF m 83 #[.val (.int p1), .val (.int p2), .val (.int p3), .val (.long q1), .second, .val (.int p4), .val (.ref b47), .unset, .unset] [(.int ((jushrL q1 (56 : Int32)).toInt32)), (.int (7 : Int32)), (.ref b47)])) (fun t k => XS.l2i X67.here hx rfl (hb hby at_82) rfl k) ?_
  refine go _ (T67.setTop (mkF m 84 #[.val (.int p1), .val (.int p2), .val (.int p3), .val (.long q1), .second, .val (.int p4), .val (.ref b47), .unset, .unset] [(.int (jb ((jushrL q1 (56 : Int32)).toInt32))), (.int (7 : Int32)), (.ref b47)])) (fun t k => XS.i2b X67.here hx rfl (hb hby at_83) rfl k) ?_
  obtain ⟨T70, h70, X70, e70, W70, A70, st70⟩ := own_stB X67 hx hZ e67 A67 (i := 7) (by decide) (by decide) (own_narb ((jushrL q1 (56 : Int32)).toInt32)) (g := (mkF m 84 #[.val (.int p1), .val (.int p2), .val (.int p3), .val (.long q1), .second, .val (.int p4), .val (.ref b47), .unset, .unset] [(.int (jb ((jushrL q1 (56 : Int32)).toInt32))), (.int (7 : Int32)), (.ref b47)])) rfl rfl (hb hby at_84)
  have Z71 : n0 ≤ h70.size := by rw [W70.size]; exact Z68
  have N72 := Fr.snoc X70 N69 ge_b47
  refine go _ (T70.setTop (mkF m 85 #[.val (.int p1), .val (.int p2), .val (.int p3), .val (.long q1), .second, .val (.int p4), .val (.ref b47), .unset, .unset] [])) (st70) ?_
  refine go _ (T70.setTop (mkF m 87 #[.val (.int p1), .val (.int p2), .val (.int p3), .val (.long q1), .second, .val (.int p4), .val (.ref b47), .unset, .unset] [(.ref b47)])) (fun t k => XS.aload X70.here hx rfl (hb hby at_85) rfl rfl k) ?_
  refine go _ (T70.setTop (mkF m 89 #[.val (.int p1), .val (.int p2), .val (.int p3), .val (.long q1), .second, .val (.int p4), .val (.ref b47), .unset, .unset] [(.int (8 : Int32)), (.ref b47)])) (fun t k => XS.bipush X70.here hx rfl (hb hby at_87) k) ?_
  refine go _ (T70.setTop (mkF m 91 #[.val (.int p1), .val (.int p2), .val (.int p3), .val (.long q1), .second, .val (.int p4), .val (.ref b47), .unset, .unset] [(.int p4), (.int (8 : Int32)), (.ref b47)])) (fun t k => XS.iload X70.here hx rfl (hb hby at_89) rfl k) ?_
  refine go _ (T70.setTop (mkF m 92 #[.val (.int p1), .val (.int p2), .val (.int p3), .val (.long q1), .second, .val (.int p4), .val (.ref b47), .unset, .unset] [(.int (jb p4)), (.int (8 : Int32)), (.ref b47)])) (fun t k => XS.i2b X70.here hx rfl (hb hby at_91) rfl k) ?_
  obtain ⟨T73, h73, X73, e73, W73, A73, st73⟩ := own_stB X70 hx hZ e70 A70 (i := 8) (by decide) (by decide) (own_narb p4) (g := (mkF m 92 #[.val (.int p1), .val (.int p2), .val (.int p3), .val (.long q1), .second, .val (.int p4), .val (.ref b47), .unset, .unset] [(.int (jb p4)), (.int (8 : Int32)), (.ref b47)])) rfl rfl (hb hby at_92)
  have Z74 : n0 ≤ h73.size := by rw [W73.size]; exact Z71
  have N75 := Fr.snoc X73 N72 ge_b47
  refine go _ (T73.setTop (mkF m 93 #[.val (.int p1), .val (.int p2), .val (.int p3), .val (.long q1), .second, .val (.int p4), .val (.ref b47), .unset, .unset] [])) (st73) ?_
  refine go _ (T73.setTop (mkF m 95 #[.val (.int p1), .val (.int p2), .val (.int p3), .val (.long q1), .second, .val (.int p4), .val (.ref b47), .unset, .unset] [(.ref b47)])) (fun t k => XS.aload X73.here hx rfl (hb hby at_93) rfl rfl k) ?_
  refine go _ (T73.setTop (mkF m 97 #[.val (.int p1), .val (.int p2), .val (.int p3), .val (.long q1), .second, .val (.int p4), .val (.ref b47), .unset, .unset] [(.int (9 : Int32)), (.ref b47)])) (fun t k => XS.bipush X73.here hx rfl (hb hby at_95) k) ?_
  refine go _ (T73.setTop (mkF m 99 #[.val (.int p1), .val (.int p2), .val (.int p3), .val (.long q1), .second, .val (.int p4), .val (.ref b47), .unset, .unset] [(.int p4), (.int (9 : Int32)), (.ref b47)])) (fun t k => XS.iload X73.here hx rfl (hb hby at_97) rfl k) ?_
  refine go _ (T73.setTop (mkF m 101 #[.val (.int p1), .val (.int p2), .val (.int p3), .val (.long q1), .second, .val (.int p4), .val (.ref b47), .unset, .unset] [(.int (8 : Int32)), (.int p4), (.int (9 : Int32)), (.ref b47)])) (fun t k => XS.bipush X73.here hx rfl (hb hby at_99) k) ?_
  refine go _ (T73.setTop (mkF m 102 #[.val (.int p1), .val (.int p2), .val (.int p3), .val (.long q1), .second, .val (.int p4), .val (.ref b47), .unset, .unset] [(.int (jushr p4 (8 : Int32))), (.int (9 : Int32)), (.ref b47)])) (fun t k => XS.iushr X73.here hx rfl (hb hby at_101) rfl k) ?_
  refine go _ (T73.setTop (mkF m 103 #[.val (.int p1), .val (.int p2), .val (.int p3), .val (.long q1), .second, .val (.int p4), .val (.ref b47), .unset, .unset] [(.int (jb (jushr p4 (8 : Int32)))), (.int (9 : Int32)), (.ref b47)])) (fun t k => XS.i2b X73.here hx rfl (hb hby at_102) rfl k) ?_
  obtain ⟨T76, h76, X76, e76, W76, A76, st76⟩ := own_stB X73 hx hZ e73 A73 (i := 9) (by decide) (by decide) (own_narb (jushr p4 (8 : Int32))) (g := (mkF m 103 #[.val (.int p1), .val (.int p2), .val (.int p3), .val (.long q1), .second, .val (.int p4), .val (.ref b47), .unset, .unset] [(.int (jb (jushr p4 (8 : Int32)))), (.int (9 : Int32)), (.ref b47)])) rfl rfl (hb hby at_103)
  have Z77 : n0 ≤ h76.size := by rw [W76.size]; exact Z74
  have N78 := Fr.snoc X76 N75 ge_b47
  refine go _ (T76.setTop (mkF m 104 #[.val (.int p1), .val (.int p2), .val (.int p3), .val (.long q1), .second, .val (.int p4), .val (.ref b47), .unset, .unset] [])) (st76) ?_
  refine go _ (T76.setTop (mkF m 106 #[.val (.int p1), .val (.int p2), .val (.int p3), .val (.long q1), .second, .val (.int p4), .val (.ref b47), .unset, .unset] [(.ref b47)])) (fun t k => XS.aload X76.here hx rfl (hb hby at_104) rfl rfl k) ?_
  refine go _ (T76.setTop (mkF m 108 #[.val (.int p1), .val (.int p2), .val (.int p3), .val (.long q1), .second, .val (.int p4), .val (.ref b47), .unset, .unset] [(.int (10 : Int32)), (.ref b47)])) (fun t k => XS.bipush X76.here hx rfl (hb hby at_106) k) ?_
  refine go _ (T76.setTop (mkF m 110 #[.val (.int p1), .val (.int p2), .val (.int p3), .val (.long q1), .second, .val (.int p4), .val (.ref b47), .unset, .unset] [(.int p4), (.int (10 : Int32)), (.ref b47)])) (fun t k => XS.iload X76.here hx rfl (hb hby at_108) rfl k) ?_
  refine go _ (T76.setTop (mkF m 112 #[.val (.int p1), .val (.int p2), .val (.int p3), .val (.long q1), .second, .val (.int p4), .val (.ref b47), .unset, .unset] [(.int (16 : Int32)), (.int p4), (.int (10 : Int32)), (.ref b47)])) (fun t k => XS.bipush X76.here hx rfl (hb hby at_110) k) ?_
  refine go _ (T76.setTop (mkF m 113 #[.val (.int p1), .val (.int p2), .val (.int p3), .val (.long q1), .second, .val (.int p4), .val (.ref b47), .unset, .unset] [(.int (jushr p4 (16 : Int32))), (.int (10 : Int32)), (.ref b47)])) (fun t k => XS.iushr X76.here hx rfl (hb hby at_112) rfl k) ?_
  refine go _ (T76.setTop (mkF m 114 #[.val (.int p1), .val (.int p2), .val (.int p3), .val (.long q1), .second, .val (.int p4), .val (.ref b47), .unset, .unset] [(.int (jb (jushr p4 (16 : Int32)))), (.int (10 : Int32)), (.ref b47)])) (fun t k => XS.i2b X76.here hx rfl (hb hby at_113) rfl k) ?_
  obtain ⟨T79, h79, X79, e79, W79, A79, st79⟩ := own_stB X76 hx hZ e76 A76 (i := 10) (by decide) (by decide) (own_narb (jushr p4 (16 : Int32))) (g := (mkF m 114 #[.val (.int p1), .val (.int p2), .val (.int p3), .val (.long q1), .second, .val (.int p4), .val (.ref b47), .unset, .unset] [(.int (jb (jushr p4 (16 : Int32)))), (.int (10 : Int32)), (.ref b47)])) rfl rfl (hb hby at_114)
  have Z80 : n0 ≤ h79.size := by rw [W79.size]; exact Z77
  have N81 := Fr.snoc X79 N78 ge_b47
  refine go _ (T79.setTop (mkF m 115 #[.val (.int p1), .val (.int p2), .val (.int p3), .val (.long q1), .second, .val (.int p4), .val (.ref b47), .unset, .unset] [])) (st79) ?_
  refine go _ (T79.setTop (mkF m 117 #[.val (.int p1), .val (.int p2), .val (.int p3), .val (.long q1), .second, .val (.int p4), .val (.ref b47), .unset, .unset] [(.ref b47)])) (fun t k => XS.aload X79.here hx rfl (hb hby at_115) rfl rfl k) ?_
  refine go _ (T79.setTop (mkF m 119 #[.val (.int p1), .val (.int p2), .val (.int p3), .val (.long q1), .second, .val (.int p4), .val (.ref b47), .unset, .unset] [(.int (11 : Int32)), (.ref b47)])) (fun t k => XS.bipush X79.here hx rfl (hb hby at_117) k) ?_
  refine go _ (T79.setTop (mkF m 121 #[.val (.int p1), .val (.int p2), .val (.int p3), .val (.long q1), .second, .val (.int p4), .val (.ref b47), .unset, .unset] [(.int p4), (.int (11 : Int32)), (.ref b47)])) (fun t k => XS.iload X79.here hx rfl (hb hby at_119) rfl k) ?_
  refine go _ (T79.setTop (mkF m 123 #[.val (.int p1), .val (.int p2), .val (.int p3), .val (.long q1), .second, .val (.int p4), .val (.ref b47), .unset, .unset] [(.int (24 : Int32)), (.int p4), (.int (11 : Int32)), (.ref b47)])) (fun t k => XS.bipush X79.here hx rfl (hb hby at_121) k) ?_
  refine go _ (T79.setTop (mkF m 124 #[.val (.int p1), .val (.int p2), .val (.int p3), .val (.long q1), .second, .val (.int p4), .val (.ref b47), .unset, .unset] [(.int (jushr p4 (24 : Int32))), (.int (11 : Int32)), (.ref b47)])) (fun t k => XS.iushr X79.here hx rfl (hb hby at_123) rfl k) ?_
  refine go _ (T79.setTop (mkF m 125 #[.val (.int p1), .val (.int p2), .val (.int p3), .val (.long q1), .second, .val (.int p4), .val (.ref b47), .unset, .unset] [(.int (jb (jushr p4 (24 : Int32)))), (.int (11 : Int32)), (.ref b47)])) (fun t k => XS.i2b X79.here hx rfl (hb hby at_124) rfl k) ?_
  obtain ⟨T82, h82, X82, e82, W82, A82, st82⟩ := own_stB X79 hx hZ e79 A79 (i := 11) (by decide) (by decide) (own_narb (jushr p4 (24 : Int32))) (g := (mkF m 125 #[.val (.int p1), .val (.int p2), .val (.int p3), .val (.long q1), .second, .val (.int p4), .val (.ref b47), .unset, .unset] [(.int (jb (jushr p4 (24 : Int32)))), (.int (11 : Int32)), (.ref b47)])) rfl rfl (hb hby at_125)
  have Z83 : n0 ≤ h82.size := by rw [W82.size]; exact Z80
  have N84 := Fr.snoc X82 N81 ge_b47
  refine go _ (T82.setTop (mkF m 126 #[.val (.int p1), .val (.int p2), .val (.int p3), .val (.long q1), .second, .val (.int p4), .val (.ref b47), .unset, .unset] [])) (st82) ?_
  refine go _ (T82.setTop (mkF m 127 #[.val (.int p1), .val (.int p2), .val (.int p3), .val (.long q1), .second, .val (.int p4), .val (.ref b47), .unset, .unset] [(.int p3)])) (fun t k => XS.iloadN X82.here hx rfl (hb hby at_126) rfl k) ?_
  refine go _ (T82.setTop (mkF m 128 #[.val (.int p1), .val (.int p2), .val (.int p3), .val (.long q1), .second, .val (.int p4), .val (.ref b47), .unset, .unset] [(.int (3 : Int32)), (.int p3)])) (fun t k => XS.iconst X82.here hx rfl (hb hby at_127) k) ?_
  refine go _ (T82.setTop (mkF m 129 #[.val (.int p1), .val (.int p2), .val (.int p3), .val (.long q1), .second, .val (.int p4), .val (.ref b47), .unset, .unset] [(.int (p3 &&& (3 : Int32)))])) (fun t k => XS.iand X82.here hx rfl (hb hby at_128) rfl k) ?_
  refine go _ (T82.setTop (mkF m 131 #[.val (.int p1), .val (.int p2), .val (.int p3), .val (.long q1), .second, .val (.int p4), .val (.ref b47), .val (.int (p3 &&& (3 : Int32))), .unset] [])) (fun t k => XS.istore X82.here hx rfl (hb hby at_129) rfl (l' := #[.val (.int p1), .val (.int p2), .val (.int p3), .val (.long q1), .second, .val (.int p4), .val (.ref b47), .val (.int (p3 &&& (3 : Int32))), .unset]) rfl k) ?_
  refine go _ (T82.setTop (mkF m 132 #[.val (.int p1), .val (.int p2), .val (.int p3), .val (.long q1), .second, .val (.int p4), .val (.ref b47), .val (.int (p3 &&& (3 : Int32))), .unset] [(.int p1)])) (fun t k => XS.iloadN X82.here hx rfl (hb hby at_131) rfl k) ?_
  refine go _ (T82.setTop (mkF m 133 #[.val (.int p1), .val (.int p2), .val (.int p3), .val (.long q1), .second, .val (.int p4), .val (.ref b47), .val (.int (p3 &&& (3 : Int32))), .unset] [(.int p2), (.int p1)])) (fun t k => XS.iloadN X82.here hx rfl (hb hby at_132) rfl k) ?_
  refine go _ (T82.setTop (mkF m 135 #[.val (.int p1), .val (.int p2), .val (.int p3), .val (.long q1), .second, .val (.int p4), .val (.ref b47), .val (.int (p3 &&& (3 : Int32))), .unset] [(.int (31 : Int32)), (.int p2), (.int p1)])) (fun t k => XS.bipush X82.here hx rfl (hb hby at_133) k) ?_
  refine go _ (T82.setTop (mkF m 136 #[.val (.int p1), .val (.int p2), .val (.int p3), .val (.long q1), .second, .val (.int p4), .val (.ref b47), .val (.int (p3 &&& (3 : Int32))), .unset] [(.int (p2 &&& (31 : Int32))), (.int p1)])) (fun t k => XS.iand X82.here hx rfl (hb hby at_135) rfl k) ?_
  refine go _ (T82.setTop (mkF m 137 #[.val (.int p1), .val (.int p2), .val (.int p3), .val (.long q1), .second, .val (.int p4), .val (.ref b47), .val (.int (p3 &&& (3 : Int32))), .unset] [(.int (jushr p1 (p2 &&& (31 : Int32))))])) (fun t k => XS.iushr X82.here hx rfl (hb hby at_136) rfl k) ?_
  refine go _ (T82.setTop (mkF m 139 #[.val (.int p1), .val (.int p2), .val (.int p3), .val (.long q1), .second, .val (.int p4), .val (.ref b47), .val (.int (p3 &&& (3 : Int32))), .unset] [(.int (2147483647 : Int32)), (.int (jushr p1 (p2 &&& (31 : Int32))))])) (X82.ldcInt hx hown (mvT hZ (hw _ (List.mem_of_getElem? (i := 1) rfl))) (g := (mkF m 137 #[.val (.int p1), .val (.int p2), .val (.int p3), .val (.long q1), .second, .val (.int p4), .val (.ref b47), .val (.int (p3 &&& (3 : Int32))), .unset] [(.int (jushr p1 (p2 &&& (31 : Int32))))])) rfl (hb hby at_137)) ?_
  refine go _ (T82.setTop (mkF m 140 #[.val (.int p1), .val (.int p2), .val (.int p3), .val (.long q1), .second, .val (.int p4), .val (.ref b47), .val (.int (p3 &&& (3 : Int32))), .unset] [(.int ((jushr p1 (p2 &&& (31 : Int32))) &&& (2147483647 : Int32)))])) (fun t k => XS.iand X82.here hx rfl (hb hby at_139) rfl k) ?_
  refine go _ (T82.setTop (mkF m 142 #[.val (.int p1), .val (.int p2), .val (.int p3), .val (.long q1), .second, .val (.int p4), .val (.ref b47), .val (.int (p3 &&& (3 : Int32))), .val (.int (v_rm0_0 p1 p2))] [])) (fun t k => XS.istore X82.here hx rfl (hb hby at_140) rfl (l' := #[.val (.int p1), .val (.int p2), .val (.int p3), .val (.long q1), .second, .val (.int p4), .val (.ref b47), .val (.int (p3 &&& (3 : Int32))), .val (.int (v_rm0_0 p1 p2))]) rfl k) ?_
  refine go _ (T82.setTop (mkF m 144 #[.val (.int p1), .val (.int p2), .val (.int p3), .val (.long q1), .second, .val (.int p4), .val (.ref b47), .val (.int (p3 &&& (3 : Int32))), .val (.int (v_rm0_0 p1 p2))] [(.ref b47)])) (fun t k => XS.aload X82.here hx rfl (hb hby at_142) rfl rfl k) ?_
  refine go _ (T82.setTop (mkF m 146 #[.val (.int p1), .val (.int p2), .val (.int p3), .val (.long q1), .second, .val (.int p4), .val (.ref b47), .val (.int (p3 &&& (3 : Int32))), .val (.int (v_rm0_0 p1 p2))] [(.int (p3 &&& (3 : Int32))), (.ref b47)])) (fun t k => XS.iload X82.here hx rfl (hb hby at_144) rfl k) ?_
  refine go _ (T82.setTop (mkF m 148 #[.val (.int p1), .val (.int p2), .val (.int p3), .val (.long q1), .second, .val (.int p4), .val (.ref b47), .val (.int (p3 &&& (3 : Int32))), .val (.int (v_rm0_0 p1 p2))] [(.int (v_rm0_0 p1 p2)), (.int (p3 &&& (3 : Int32))), (.ref b47)])) (fun t k => XS.iload X82.here hx rfl (hb hby at_146) rfl k) ?_
  obtain ⟨_, _, ⟨T85, L85, k85, n85⟩, -, X85, ⟨Lc85, hQ85, l85, y85, z85⟩, st85⟩ := Jvm.LawKit.callS X82 hx (y := (⟨"com/example/keyspace_ledger/keyspaceledger/LengthPrefix", "write", "([BII)I"⟩ : MethodName)) hown (mvT hZ (hw _ (List.mem_of_getElem? (i := 2) rfl))) (mvT hZ (hw _ (List.mem_of_getElem? (i := 3) rfl))) (mvT hZ (hw _ (List.mem_of_getElem? (i := 4) rfl))) (mvT hZ (hw _ (List.mem_of_getElem? (i := 5) rfl))) (by decide) (backOf (W := 0) (rm1 l Z a0 hw [] b47 (p3 &&& (3 : Int32)) (v_rm0_0 p1 p2) _ 12 i h82 n0 Z83 A82 ge_b47 hj (by omega) (own_lenpos p1 p2)) hZ (hw _ (List.mem_of_getElem? (i := 5) rfl)) (hw _ (List.mem_of_getElem? (i := 4) rfl)) (by decide) (by decide)) (g := (mkF m 148 #[.val (.int p1), .val (.int p2), .val (.int p3), .val (.long q1), .second, .val (.int p4), .val (.ref b47), .val (.int (p3 &&& (3 : Int32))), .val (.int (v_rm0_0 p1 p2))] [(.int (v_rm0_0 p1 p2)), (.int (p3 &&& (3 : Int32))), (.ref b47)])) rfl (by rw [hml]; rfl) (argsL := [(.ref b47), (.int (p3 &&& (3 : Int32))), (.int (v_rm0_0 p1 p2))]) (rest := []) (lenOf pd_1 rfl) rfl (by show 2 * 0 + _ ≤ _; exact Nat.le_of_eq rfl) (hb hby at_148) (fun _ _ => ⟨rfl, e82, (by decide : 0 + 1 + 0 ≤ _), (by decide : 0 + 12 + 0 ≤ _)⟩)
  dsimp only [Pt.U, Pt.locs, Pt.cells, Pt.slots] at X85 l85 y85 z85 st85 hQ85
  subst l85 y85 z85
  obtain ⟨rfl, Nq85, Kq85, Aq85⟩ := hQ85
  have N86 := Fr.app N84 Nq85
  have Z87 : n0 ≤ T85.heap.size := Nat.le_trans Z83 Kq85.1
  refine go _ (T85.setTop (mkF m 151 #[.val (.int p1), .val (.int p2), .val (.int p3), .val (.long q1), .second, .val (.int p4), .val (.ref b47), .val (.int (p3 &&& (3 : Int32))), .val (.int (v_rm0_0 p1 p2))] [(.int (own_end (p3 &&& (3 : Int32)) (v_rm0_0 p1 p2)))])) (st85) ?_
  refine go _ (T85.setTop (mkF m 152 #[.val (.int p1), .val (.int p2), .val (.int p3), .val (.long q1), .second, .val (.int p4), .val (.ref b47), .val (.int (p3 &&& (3 : Int32))), .val (.int (v_rm0_0 p1 p2))] [])) (fun t k => XS.pop X85.here hx rfl (hb hby at_151) rfl rfl k) ?_
  refine go _ (T85.setTop (mkF m 154 #[.val (.int p1), .val (.int p2), .val (.int p3), .val (.long q1), .second, .val (.int p4), .val (.ref b47), .val (.int (p3 &&& (3 : Int32))), .val (.int (v_rm0_0 p1 p2))] [(.ref b47)])) (fun t k => XS.aload X85.here hx rfl (hb hby at_152) rfl rfl k) ?_
  refine go _ (T85.setTop (mkF m 156 #[.val (.int p1), .val (.int p2), .val (.int p3), .val (.long q1), .second, .val (.int p4), .val (.ref b47), .val (.int (p3 &&& (3 : Int32))), .val (.int (v_rm0_0 p1 p2))] [(.int (p3 &&& (3 : Int32))), (.ref b47)])) (fun t k => XS.iload X85.here hx rfl (hb hby at_154) rfl k) ?_
  obtain ⟨y0, y1, y2, y3, y4, hv0, hv1, hv2, hv3, hv4, ht, hlaw⟩ := own_rw Aq85 (own_lenpos p1 p2) (own_iu (own_iu (own_iu (own_iu (own_iu (own_iu (own_iu (own_iu (own_iu (own_iu (own_iu (own_iu (fun j => ⟨_, rfl⟩)))))))))))))
  obtain ⟨_, _, ⟨T88, L88, k88, n88⟩, -, X88, ⟨Lc88, hQ88, l88, y88, z88⟩, st88⟩ := Jvm.LawKit.callS X85 hx (y := (⟨"com/example/keyspace_ledger/keyspaceledger/LengthPrefix", "read", "([BI)I"⟩ : MethodName)) hown (mvT hZ (hw _ (List.mem_of_getElem? (i := 6) rfl))) (mvT hZ (hw _ (List.mem_of_getElem? (i := 7) rfl))) (mvT hZ (hw _ (List.mem_of_getElem? (i := 4) rfl))) (mvT hZ (hw _ (List.mem_of_getElem? (i := 8) rfl))) (by decide) (backOf (W := 0) (rm2 l Z a0 hw [] b47 (p3 &&& (3 : Int32)) _ 12 i y0 y1 y2 y3 y4 T85.heap n0 Z87 Aq85 hj (by omega) hv0 hv1 hv2 hv3 hv4 ht) hZ (hw _ (List.mem_of_getElem? (i := 8) rfl)) (hw _ (List.mem_of_getElem? (i := 4) rfl)) (by decide) (by decide)) (g := (mkF m 156 #[.val (.int p1), .val (.int p2), .val (.int p3), .val (.long q1), .second, .val (.int p4), .val (.ref b47), .val (.int (p3 &&& (3 : Int32))), .val (.int (v_rm0_0 p1 p2))] [(.int (p3 &&& (3 : Int32))), (.ref b47)])) rfl (by rw [hml]; rfl) (argsL := [(.ref b47), (.int (p3 &&& (3 : Int32)))]) (rest := []) (lenOf pd_2 rfl) rfl (by show 2 * 0 + _ ≤ _; exact Nat.le_of_eq rfl) (hb hby at_156) (fun _ _ => ⟨rfl, rfl, (by decide : 0 + 1 + 0 ≤ _), (by decide : 0 + 12 + 0 ≤ _)⟩)
  dsimp only [Pt.U, Pt.locs, Pt.cells, Pt.slots] at X88 l88 y88 z88 st88 hQ88
  subst l88 y88 z88
  obtain ⟨rfl, Nq88, hh88⟩ := hQ88
  have N89 := Fr.app N86 Nq88
  refine go _ (T88.setTop (mkF m 159 #[.val (.int p1), .val (.int p2), .val (.int p3), .val (.long q1), .second, .val (.int p4), .val (.ref b47), .val (.int (p3 &&& (3 : Int32))), .val (.int (v_rm0_0 p1 p2))] [(.int (own_rd y0 y1 y2 y3 y4))])) (st88) ?_
  refine go _ (T88.setTop (mkF m 161 #[.val (.int p1), .val (.int p2), .val (.int p3), .val (.long q1), .second, .val (.int p4), .val (.ref b47), .val (.int (p3 &&& (3 : Int32))), .val (.int (v_rm0_0 p1 p2))] [(.int (v_rm0_0 p1 p2)), (.int (own_rd y0 y1 y2 y3 y4))])) (fun t k => XS.iload X88.here hx rfl (hb hby at_159) rfl k) ?_
  have hc90 : ((own_rd y0 y1 y2 y3 y4) = (v_rm0_0 p1 p2)) := hlaw
  refine go _ (T88.setTop (mkF m 164 #[.val (.int p1), .val (.int p2), .val (.int p3), .val (.long q1), .second, .val (.int p4), .val (.ref b47), .val (.int (p3 &&& (3 : Int32))), .val (.int (v_rm0_0 p1 p2))] [])) (fun t k => XS.icmpNo X88.here hx rfl (hb hby at_161) rfl (teq hc90).2 k) ?_
  refine go _ (T88.setTop (mkF m 165 #[.val (.int p1), .val (.int p2), .val (.int p3), .val (.long q1), .second, .val (.int p4), .val (.ref b47), .val (.int (p3 &&& (3 : Int32))), .val (.int (v_rm0_0 p1 p2))] [(.int (1 : Int32))])) (fun t k => XS.iconst X88.here hx rfl (hb hby at_164) k) ?_
  refine go _ (T88.setTop (mkF m 169 #[.val (.int p1), .val (.int p2), .val (.int p3), .val (.long q1), .second, .val (.int p4), .val (.ref b47), .val (.int (p3 &&& (3 : Int32))), .val (.int (v_rm0_0 p1 p2))] [(.int (1 : Int32))])) (fun t k => XS.goto X88.here hx rfl (pc0 := 165) (pc' := 169) rfl (hb hby at_165) (by decide) (by decide) k) ?_
  exact fin (some (.int (1 : Int32))) X88 (by decide) (by decide) (fun q => by cases q) (show Q_rm0 Z p1 p2 p3 q1 p4 h0 n0 _ T88.heap _ from (by rw [hh88]; exact ⟨rfl, N89⟩)) (fun fs hr => retN X88 hx (t := .boolean) hret (by simp) (hb hby at_169) hr)
set_option maxRecDepth 65536 in
set_option maxHeartbeats 40000000 in
theorem comes_1 {Post : Tables → Env → Array Value → State → Outcome → State → Prop} (hpost : ∀ tb e args s v u, (limb_1_1.after args s (.returned v) u = true ∧ limb_1_2.after args s (.returned v) u = true ∧ True) → FrameEnd s (.returned v) u (Jvm.fieldLocs frame_1_writes args s ++ Jvm.arrayLocs frame_1_arrays args s ++ Jvm.staticLocs frame_1_statics s) 16 128 → Post tb e args s (.returned v) u) :
    ArmFor flags0 classFile x code maxLocals ret World_1 tables_1 room_1 Calls_1 rest_1 Pre_1 Post := by
  intro l hfl _ _ p e ha hc hk s m args below hf hA hF happ hP
  obtain ⟨hcalls, hrest, hpre⟩ := hP
  obtain ⟨-, -, -, hnamed, -, -, -, hat⟩ := (Spec.applies_iff hf).mp happ
  obtain ⟨hg, hn⟩ := and_e (Cond.before_iff.mp (show (Jvm.Cond.and given_1 narrow_1).before args s = true from hpre))
  obtain ⟨gc, g1⟩ := and_e hg
  obtain ⟨ga0, g2⟩ := and_e g1
  obtain ⟨ga1, g3⟩ := and_e g2
  obtain ⟨ga2, g4⟩ := and_e g3
  obtain ⟨ga3, g5⟩ := and_e g4
  have ga4 := g5
  obtain ⟨w0, w1, w2, w3, w4, rfl⟩ : ∃ w0 w1 w2 w3 w4 : Value, args = #[w0, w1, w2, w3, w4] := by
    have hs : args.size = 5 := by simpa [Cond.value, given_1] using gc
    obtain ⟨L⟩ := args
    match L, hs with
    | [w0, w1, w2, w3, w4], _ => exact ⟨w0, w1, w2, w3, w4, rfl⟩
  have hw := fun d (hd : d ∈ tables_1) => atoms_spec (ws := Jvm.Cond.code x code maxLocals ret :: tables_1) hat d (List.mem_cons_of_mem _ hd)
  obtain ⟨i0, ei0⟩ := is_v ga0
  obtain rfl : w0 = (.int i0) := Option.some.inj ei0
  obtain ⟨i1, ei1⟩ := is_v ga1
  obtain rfl : w1 = (.int i1) := Option.some.inj ei1
  obtain ⟨i2, ei2⟩ := is_v ga2
  obtain rfl : w2 = (.int i2) := Option.some.inj ei2
  obtain ⟨i3, ei3⟩ := isL_v ga3
  obtain rfl : w3 = (.long i3) := Option.some.inj ei3
  obtain ⟨i4, ei4⟩ := is_v ga4
  obtain rfl : w4 = (.int i4) := Option.some.inj ei4
  obtain ⟨n, o, h1, h2, h3, _, L, rfl, ⟨rfl, N⟩, hq⟩ := rm0 l s _ hw tables_1 i0 i1 i2 i3 i4 s.heap s.heap.size (Nat.le_refl _) p e ha hc hk s m _ below hf ((Spec.applies_iff_loose hf).mp happ).1 ⟨rfl, State.Warmed39.refl s, rfl⟩ trivial
  refine ⟨n, _, h1, h2, h3, hpost _ _ _ _ _ _ ⟨Cond.after_iff.mpr rfl, Cond.after_iff.mpr (eq_i res_at (Term.int_eval (1)) rfl), trivial⟩ ⟨hq.1, hq.2.1, (hq.2.2.sift fun y hy => Or.inr (N y hy)).mono (by decide) (by decide)⟩⟩
theorem main_1_1 : Claimed_1_1 := comes_1 fun _ _ _ _ _ _ h hF => ⟨h.1, hF⟩
theorem main_1_2 : Claimed_1_2 := comes_1 fun _ _ _ _ _ _ h hF => ⟨h.2.1, hF⟩
end Jvm.Pilot.@@N@@
namespace Jvm.Pilot.@@N@@
open Jvm Jvm.ClassFile Sem Op Lib Jvm.Free Jvm.Stand Jvm.Pilot.@@N@@.Jvm.D
/-! MADE BY PROGRAM (witnessworld.py) out of the Statement's table words and the real class files: 9 classes; the members and pool entries that the words name. The judged class is class 1, her method 1. -/
namespace start1
open Jvm.ClassFile
def u (s : String) : CpInfo := .utf8 (stringToUtf16 s)
/-- a pool by its gaps: so many unusable entries, then the entry; so many at the end -/
def gap : Nat → List CpInfo → List CpInfo
  | 0, r => r
  | n + 1, r => .unusable :: gap n r
def poolList (es : List (Nat × CpInfo)) (last : Nat) : List CpInfo := es.foldr (fun e r => gap e.1 (e.2 :: r)) (gap last [])
def pool (es : List (Nat × CpInfo)) (last : Nat) : Array CpInfo := ⟨poolList es last⟩
def fileOf (pool : Array CpInfo) (this : Nat) (attrs : Array Attribute := #[]) (ms : Array MethodInfo := #[]) (fl : Nat := 33) (sup : Nat := 0) (ifs : Array Nat := #[]) (fds : Array FieldInfo := #[]) : ClassFile where
  minorVersion := 0
  majorVersion := 65
  constantPool := pool
  accessFlags := fl
  thisClass := this
  superClass := sup
  interfaces := ifs
  fields := fds
  methods := ms
  attributes := attrs
def plain (name : String) (sup : Option ClassId) : Class where
  name := name
  kind := .ordinary
  loader := none
  accessFlags := 33
  super := sup
  interfaces := #[]
  cf := none
  fields := #[]
  methods := #[]
  instanceTypes := #[]
  staticTypes := #[]
  resolved := #[]
  callSites := []
  init := .initialized
  statics := none
  mirror := none

def pool0 : Array CpInfo := pool [(5, u "<init>"), (0, u "()V"), (1, .class_ 10), (1, u "java/lang/Object")] 113

def k0m0 : Method := { name := "<init>", desc := "()V", sig := { parameters := [], returnType := none }, accessFlags := 1, code := none }
/-- java/lang/Object -/
def k0 : Class := { plain "java/lang/Object" none with
  accessFlags := 33
  interfaces := #[]
  cf := some (fileOf pool0 8 #[] #[{ accessFlags := 1, nameIndex := 5, descriptorIndex := 6, attributes := #[] }] 33 0 #[] #[])
  fields := #[]
  methods := #[k0m0]
  instanceTypes := #[]
  staticTypes := #[]
  resolved := Array.replicate 124 none
  statics := none }

def pool1 : Array CpInfo := pool [(2, .class_ 4), (1, u "java/lang/Object"), (0, u "<init>"), (0, u "()V"), (0, .integer 2147483647), (0, .methodref 9 10), (0, .class_ 11), (0, .nameAndType 12 13), (0, u "com/example/keyspace_ledger/keyspaceledger/LengthPrefix"), (0, u "write"), (0, u "([BII)I"), (0, .methodref 9 15), (0, .nameAndType 16 17), (0, u "read"), (0, u "([BI)I"), (0, .class_ 19), (0, u "com/example/keyspace_ledger/keyspaceledger/LengthPrefixReadPinLaw"), (2, u "law"), (0, u "(IIIJI)Z")] 5

def k1m0 : Method := { name := "<init>", desc := "()V", sig := { parameters := [], returnType := none }, accessFlags := 2, code := none }
def k1c1 : Code := { maxStack := 5, maxLocals := 9, code := code, exceptionTable := #[], attributes := #[] }
def k1m1 : Method := { name := "law", desc := "(IIIJI)Z", sig := { parameters := [.int, .int, .int, .long, .int], returnType := some .boolean }, accessFlags := 9, code := some k1c1 }
/-- com/example/keyspace_ledger/keyspaceledger/LengthPrefixReadPinLaw -/
def k1 : Class := { plain "com/example/keyspace_ledger/keyspaceledger/LengthPrefixReadPinLaw" (some 0) with
  accessFlags := 49
  interfaces := #[]
  cf := some (fileOf pool1 18 #[] #[{ accessFlags := 2, nameIndex := 5, descriptorIndex := 6, attributes := #[] }, { accessFlags := 9, nameIndex := 22, descriptorIndex := 23, attributes := #[] }] 49 2 #[] #[])
  fields := #[]
  methods := #[k1m0, k1m1]
  instanceTypes := #[]
  staticTypes := #[]
  resolved := Array.replicate 29 none
  statics := none }

def pool2 : Array CpInfo := pool [(2, .class_ 4), (1, u "java/lang/Object"), (0, u "<init>"), (0, u "()V"), (0, .class_ 8), (0, u "com/example/keyspace_ledger/keyspaceledger/LengthPrefix"), (2, u "write"), (0, u "([BII)I"), (1, u "read"), (0, u "([BI)I")] 4

def k2m0 : Method := { name := "<init>", desc := "()V", sig := { parameters := [], returnType := none }, accessFlags := 2, code := none }
def k2c1 : Code := { maxStack := 4, maxLocals := 5, code := prog_34_method_2_code, exceptionTable := #[], attributes := #[] }
def k2m1 : Method := { name := "write", desc := "([BII)I", sig := { parameters := [(.array .byte), .int, .int], returnType := some .int }, accessFlags := 8, code := some k2c1 }
def k2c2 : Code := { maxStack := 3, maxLocals := 6, code := prog_34_method_3_code, exceptionTable := #[], attributes := #[] }
def k2m2 : Method := { name := "read", desc := "([BI)I", sig := { parameters := [(.array .byte), .int], returnType := some .int }, accessFlags := 8, code := some k2c2 }
/-- com/example/keyspace_ledger/keyspaceledger/LengthPrefix -/
def k2 : Class := { plain "com/example/keyspace_ledger/keyspaceledger/LengthPrefix" (some 0) with
  accessFlags := 48
  interfaces := #[]
  cf := some (fileOf pool2 7 #[] #[{ accessFlags := 2, nameIndex := 5, descriptorIndex := 6, attributes := #[] }, { accessFlags := 8, nameIndex := 11, descriptorIndex := 12, attributes := #[] }, { accessFlags := 8, nameIndex := 14, descriptorIndex := 15, attributes := #[] }] 48 2 #[] #[])
  fields := #[]
  methods := #[k2m0, k2m1, k2m2]
  instanceTypes := #[]
  staticTypes := #[]
  resolved := Array.replicate 20 none
  statics := none }

def pool3 : Array CpInfo := pool [(1, u "java/lang/Cloneable"), (0, .class_ 1), (0, u "java/lang/Object"), (0, .class_ 3)] 3

/-- java/lang/Cloneable -/
def k3 : Class := { plain "java/lang/Cloneable" (some 0) with
  accessFlags := 1537
  interfaces := #[]
  cf := some (fileOf pool3 2 #[] #[] 1537 4 #[] #[])
  fields := #[]
  methods := #[]
  instanceTypes := #[]
  staticTypes := #[]
  resolved := Array.replicate 8 none
  statics := none }

def pool4 : Array CpInfo := pool [(1, u "java/io/Serializable"), (0, .class_ 1), (0, u "java/lang/Object"), (0, .class_ 3)] 3

/-- java/io/Serializable -/
def k4 : Class := { plain "java/io/Serializable" (some 0) with
  accessFlags := 1537
  interfaces := #[]
  cf := some (fileOf pool4 2 #[] #[] 1537 4 #[] #[])
  fields := #[]
  methods := #[]
  instanceTypes := #[]
  staticTypes := #[]
  resolved := Array.replicate 8 none
  statics := none }

/-- the primitive byte -/
def k5 : Class := { plain "byte" none with kind := .primitive 'B', accessFlags := 0x411 }
/-- [B -/
def k6 : Class := { plain "[B" (some 0) with kind := .array 5 .byte, interfaces := #[3, 4], accessFlags := 1041 }

/-- the primitive int -/
def k7 : Class := { plain "int" none with kind := .primitive 'I', accessFlags := 0x411 }
/-- [I -/
def k8 : Class := { plain "[I" (some 0) with kind := .array 7 .int, interfaces := #[3, 4], accessFlags := 1041 }

def heap : Heap := #[]
def classes : Array Class := #[k0, k1, k2, k3, k4, k5, k6, k7, k8]
def interned : List (Array UInt16 × Addr) := []
def slotsUsed : Nat := 0
def theMethod : MethodId := ⟨1, 1⟩
def args0 : Array Value := #[.int 5, .int 61, .int 3, .long 9, .int 4]
def aboutOver (below : List Frame) : State where
  vm := { classes := classes, interned := interned.toArray }
  heap := heap
  slotsUsed := slotsUsed
  threads := #[{ frames := .invoking theMethod args0 :: below }]
def below0 : List Frame := [.native { method := ⟨0, 0⟩, args := #[] }]
def about1 : State := aboutOver below0
def p0 : Program := .bare "" "" ""
def e0 : Env := launch0.env 0 0 0
theorem w_frames : about1.frames = Frame.invoking theMethod args0 :: below0 := rfl
set_option maxRecDepth 65536 in
theorem w_args : argsFit about1.vm theMethod args0 = true := by decide +kernel
set_option maxRecDepth 65536 in
theorem w_heap : heapFits about1 = true := by decide +kernel
set_option maxRecDepth 65536 in
theorem w_runnable : about1.curStatus? = some .runnable := by decide +kernel
set_option maxRecDepth 65536 in
theorem w_alone : about1.alone = true := by decide +kernel
set_option maxRecDepth 65536 in
theorem w_named : about1.methodNamed? x = some theMethod := by decide +kernel
set_option maxRecDepth 65536 in
theorem w_hears : about1.hears theMethod below0 = true := by decide +kernel
set_option maxRecDepth 65536 in
theorem w_ripe : about1.ripe theMethod args0 below0 = true := by decide +kernel
theorem w_running : about1.status = .running := rfl
set_option maxRecDepth 65536 in
theorem w_room : about1.hasRoom e0.platform room_1 = true :=
  launch0.hasRoom_least _ room_1 (by decide +kernel) (by decide +kernel) (by decide +kernel) (by decide +kernel) (by decide +kernel) (by decide +kernel)
theorem allAtoms_all (ts : List Jvm.Cond) (a : Array Jvm.Value) (st : Jvm.State) : (allAtoms ts).before a st = ts.all (fun c => c.before a st) := by
  induction ts with
  | nil => rfl
  | cons c t ih =>
    show (Jvm.Cond.and c (allAtoms t)).before a st = _
    rw [Jvm.Cond.before_and, ih, List.all_cons]
def words1 : List Jvm.Cond := Jvm.Cond.code x code maxLocals ret :: tables_1
/-- a 'code' word, met by the world's own term for the bytes: nothing is compared byte by byte -/
theorem code_word {y : MethodName} {bytes : ByteArray} {mx : Nat} {rt : Option FieldType} {a : Array Value} {s : State} {m : MethodId} {meth : Method} {c : Code} (h1 : s.methodNamed? y = some m) (h2 : s.vm.method? m = some meth) (h3 : meth.code = some c) (h4 : c.code = bytes)
    (h5 : (c.maxLocals == mx && c.exceptionTable.isEmpty && decide (c.maxStack ≤ mostOperands) && decide (meth.sig.returnType = rt) && !meth.locks && decide (parseMethodDescriptor y.desc = some meth.sig)) = true) : (Jvm.Cond.code y bytes mx rt).before a s = true := by
  simp only [Bool.and_eq_true, beq_iff_eq, Bool.not_eq_true', decide_eq_true_eq] at h5
  obtain ⟨⟨⟨⟨⟨g1, g2⟩, g3⟩, g4⟩, g5⟩, g6⟩ := h5
  simp [Cond.before, Cond.holds, Cond.value, h1, h2, h3, h4, g1, g2, g3, g4, g5, g6]
def isCode : Jvm.Cond → Bool
  | .code _ _ _ _ => true
  | _ => false
theorem all_split {L : List Jvm.Cond} {P : Jvm.Cond → Bool} (h1 : L.all (fun c => isCode c || P c) = true) (h2 : ∀ c ∈ L.filter isCode, P c = true) : L.all P = true := by
  refine List.all_eq_true.mpr fun c hc => ?_
  have h := List.all_eq_true.mp h1 c hc
  rcases Bool.eq_false_or_eq_true (isCode c) with hi | hi
  · exact h2 c (List.mem_filter.mpr ⟨hc, hi⟩)
  · simpa [hi] using h
set_option maxRecDepth 65536 in
theorem w_c0 : (Jvm.Cond.code x code maxLocals ret).before args0 about1 = true := code_word (m := ⟨1, 1⟩) (meth := k1m1) (c := k1c1) (by decide +kernel) rfl rfl rfl (by decide +kernel)
set_option maxRecDepth 65536 in
theorem w_c1 : (Jvm.Cond.code ({ cls := "com/example/keyspace_ledger/keyspaceledger/LengthPrefix", name := "write", desc := "([BII)I" } : Jvm.MethodName) prog_34_method_2_code (5 : Nat) (Option.some Jvm.ClassFile.FieldType.int)).before args0 about1 = true := code_word (m := ⟨2, 1⟩) (meth := k2m1) (c := k2c1) (by decide +kernel) rfl rfl rfl (by decide +kernel)
set_option maxRecDepth 65536 in
theorem w_c2 : (Jvm.Cond.code ({ cls := "com/example/keyspace_ledger/keyspaceledger/LengthPrefix", name := "read", desc := "([BI)I" } : Jvm.MethodName) prog_34_method_3_code (6 : Nat) (Option.some Jvm.ClassFile.FieldType.int)).before args0 about1 = true := code_word (m := ⟨2, 2⟩) (meth := k2m2) (c := k2c2) (by decide +kernel) rfl rfl rfl (by decide +kernel)
def codes1 : List Jvm.Cond := [Jvm.Cond.code x code maxLocals ret, Jvm.Cond.code ({ cls := "com/example/keyspace_ledger/keyspaceledger/LengthPrefix", name := "write", desc := "([BII)I" } : Jvm.MethodName) prog_34_method_2_code (5 : Nat) (Option.some Jvm.ClassFile.FieldType.int), Jvm.Cond.code ({ cls := "com/example/keyspace_ledger/keyspaceledger/LengthPrefix", name := "read", desc := "([BI)I" } : Jvm.MethodName) prog_34_method_3_code (6 : Nat) (Option.some Jvm.ClassFile.FieldType.int)]
set_option maxRecDepth 65536 in
theorem codes_eq : words1.filter isCode = codes1 := rfl
theorem w_codes : ∀ c ∈ words1.filter isCode, c.before args0 about1 = true := by
  rw [codes_eq]
  intro c hc
  simp only [codes1, List.mem_cons, List.not_mem_nil, or_false] at hc
  rcases hc with rfl | rfl | rfl
  · exact w_c0
  · exact w_c1
  · exact w_c2
set_option maxRecDepth 65536 in
theorem w_t1 : words1.all (fun c => isCode c || c.before args0 about1) = true := by decide +kernel
theorem w_tables : (allAtoms (Jvm.Cond.code x code maxLocals ret :: tables_1)).before args0 about1 = true := by
  rw [allAtoms_all]
  show words1.all (fun c => c.before args0 about1) = true
  refine all_split ?_ w_codes
  rw [w_t1]
set_option maxRecDepth 65536 in
theorem w_case : (Jvm.Cond.and given_1 narrow_1).before args0 about1 = true := by decide +kernel
theorem w_applies : (headSpec (Jvm.Cond.code x code maxLocals ret :: tables_1) room_1).applies x e0.platform about1 = true :=
  (Spec.applies_iff w_frames).mpr ⟨w_running, w_runnable, w_alone, w_named, w_hears, w_ripe, w_room, w_tables⟩
theorem atStart : AtStart classFile x code maxLocals ret World_1 tables_1 room_1 Calls_1 rest_1 Pre_1 launch0 p0 e0 about1 theMethod args0 below0 :=
  ⟨lists_1, trivial, launch0.admits_env _ _ _, launch0.least_env, fairChoices_fair.cas, fairChoices_fair.clock, w_frames, w_args, w_heap, w_applies, trivial, trivial, w_case⟩
end start1
theorem witness_1 : WitnessClaimed_1 := ⟨start1.p0, start1.e0, start1.about1, start1.theMethod, start1.args0, start1.below0, start1.atStart⟩
end Jvm.Pilot.@@N@@
