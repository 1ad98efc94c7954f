import JvmDerived
import JvmDerived.Pilot.@@N@@Statement
import JvmDerived.Pilot.@@N@@Code
set_option linter.unusedVariables false
set_option linter.unusedSimpArgs false
namespace Jvm.RoadKit
open Sem ClassFile Op Lib Jvm.Stand Jvm.Free Jvm.LawKit
section New
variable {p : Program} {l : Launch} {e : Env} {R : Room} {s : State} {m : MethodId} {args : Array Value} {below : List Frame} {meth : Method} {c : Code} {T : State} {locs : List Loc} {cells slots : Nat}
theorem retI (X : Stand p l e R s m args below meth c T locs cells slots) (hx : p.tables.exec = Jvm.exec) {pc : Nat} {Ls : Array Slot} {z : Int32} {rest : List Value} (hret : meth.sig.returnType = some .int) (hd : decode c.code pc = .ok (.ireturn, 1)) {fs : List Frame}
    (hl : ∀ (f : JFrame) (acts : List Action), f.method = m → f.locked = none → f.entered = [] → (doReturn e (T.setTop f) acts (some (.int z))).1 = T.setFrames fs) : Steps p.tables e below (T.setTop (mkF m pc Ls (.int z :: rest))) (T.setFrames fs) := by
  have hm' : T.vm.method? m = some meth := X.method'
  have hn : narrow .int (.int z) = .int z := rfl
  show Steps p.tables e below (T.setTop { method := m, pc := pc, locals := Ls, stack := _ :: rest, locked := none }) _
  jvm_step X.here [X.here.top, hx, hd, hm', hret, hn]
  first | (intro acts; rw [hl _ acts rfl rfl rfl]) | rw [hl _ _ rfl rfl rfl]
  exact Steps.refl _
theorem retJ (X : Stand p l e R s m args below meth c T locs cells slots) (hx : p.tables.exec = Jvm.exec) {pc : Nat} {Ls : Array Slot} {z : Int64} {rest : List Value} (hret : meth.sig.returnType = some .long) (hd : decode c.code pc = .ok (.lreturn, 1)) {fs : List Frame}
    (hl : ∀ (f : JFrame) (acts : List Action), f.method = m → f.locked = none → f.entered = [] → (doReturn e (T.setTop f) acts (some (.long z))).1 = T.setFrames fs) : Steps p.tables e below (T.setTop (mkF m pc Ls (.long z :: rest))) (T.setFrames fs) :=
  retOut X hx hret rfl (Or.inr (Or.inl ⟨rfl, rfl, z, rfl⟩)) hd hl
theorem retA (X : Stand p l e R s m args below meth c T locs cells slots) (hx : p.tables.exec = Jvm.exec) {pc : Nat} {Ls : Array Slot} {a : Addr} {t : FieldType} {rest : List Value} (hret : meth.sig.returnType = some t) (ht : t.isReference = true) (hd : decode c.code pc = .ok (.areturn, 1)) {fs : List Frame}
    (hl : ∀ (f : JFrame) (acts : List Action), f.method = m → f.locked = none → f.entered = [] → (doReturn e (T.setTop f) acts (some (.ref a))).1 = T.setFrames fs) : Steps p.tables e below (T.setTop (mkF m pc Ls (.ref a :: rest))) (T.setFrames fs) :=
  retOut X hx hret (by cases t <;> first | rfl | (simp [FieldType.isReference] at ht)) (Or.inr (Or.inr (Or.inr (Or.inr ⟨rfl, ht, rfl⟩)))) hd hl
end New
end Jvm.RoadKit
namespace Jvm.Pilot.@@N@@
open Jvm Jvm.ClassFile Sem Op Lib Jvm.Free Jvm.Stand Jvm.LawKit Jvm.RoadKit Bundle Jvm.Pilot.@@N@@.Jvm.D
section OwnKit
variable {p : Program} {l : Launch} {e : Env} {R : Room} {s : State} {m : MethodId} {args : Array Value} {below : List Frame} {meth : Method} {c : Code} {T : State} {locs : List Loc} {cells slots : Nat} {Z : State} {h h' : Heap}
/-- one body's contract, with the walk's goal as a closed predicate K: 'go' takes a step, 'fin' leaves the method -/
theorem own_body {y : MethodName} {bytes : ByteArray} {maxL : Nat} {ret : Option FieldType} {ws : List Jvm.Cond} {rm : Room} {h0 : Heap} {Q : Option Value → Heap → List Loc → Prop} (hp : plainFor y = true)
    (body : ∀ (p : Program) (e : Env) (s : State) (m : MethodId) (below : List Frame) (meth : Method) (c : Code) (s₁ : State) (K : State → Prop),
      (∀ U U', (∀ t, Steps p.tables e below U' t → Steps p.tables e below U t) → K U' → K U) →
      (∀ {T : State} {locs : List Loc} {cells slots : Nat} {g : JFrame} (v : Option Value), Stand p l e rm s m args below meth c T locs cells slots → cells ≤ rm.cells → slots ≤ rm.slots → (ret = none → v = none) → Q v T.heap locs →
        (∀ fs, (∀ (f : JFrame) (acts : List Action), f.method = m → f.locked = none → f.entered = [] → (doReturn e (T.setTop f) acts v).1 = T.setFrames fs) → Steps p.tables e below (T.setTop g) (T.setFrames fs)) → K (T.setTop g)) →
      Stand p l e rm s m args below meth c s₁ [] 0 0 → p.tables.exec = Jvm.exec → c.code = bytes → c.maxLocals = maxL → s.vm.findClass y.cls = some m.cls → meth.name = y.name → meth.sig.returnType = ret → Z.Warmed39 s.vm → s₁.heap = h0 → K (s₁.setTop (entryFrame m args maxL))) :
    MetFree l y (head1 (Jvm.Cond.code y bytes maxL ret :: ws) rm) (fun a U => a = args ∧ Z.Warmed39 U.vm ∧ U.heap = h0) (fun _ _ _ _ _ => True) (fun _ U o U' => ∃ v L, o = .returned v ∧ Q v U'.heap L ∧ FrameEnd U o U' L rm.cells rm.slots) := by
  refine MetFree.of_bodySF hp hisR ?_
  intro p e s m args' below meth c s₁ Bd hml hP hK
  obtain ⟨rfl, hZ, hh⟩ := hP
  refine body p e s m below meth c s₁ (fun U => ∃ s₂ o, Steps p.tables e below U s₂ ∧ s₂.status = .running ∧ Ended s₂ below o ∧ ∃ v L, o = .returned v ∧ Q v s₂.heap L ∧ FrameEnd s o s₂ L rm.cells rm.slots) ?_ ?_ (Stand.of_body Bd) Bd.exec Bd.bytes hml (findClass_of_methodNamed Bd.named) (name_of_methodNamed Bd.named Bd.method).1 Bd.returns hZ (by rw [← hh, Bd.state]; rfl)
  · rintro U U' st ⟨s₂, o, h1, h2⟩
    exact ⟨s₂, o, st _ h1, h2⟩
  · intro T locs cells slots g v X hc hs hv hQ hst
    obtain ⟨fs, hr, hrun, hended, hW, hsame⟩ := X.leave (v := v) (fun q => hv (Bd.returns ▸ q))
    exact ⟨_, _, hst fs hr, hrun, hended, v, locs, rfl, hQ, ⟨_, rfl⟩, hW, hsame.mono hc hs⟩
/-! Java's shifts and the narrowing to a byte -/
def jushr (x y : Int32) : Int32 := (x.toUInt32 >>> (y &&& 31).toUInt32).toInt32
def jshl (x y : Int32) : Int32 := x <<< (y &&& 31)
def jshr (x y : Int32) : Int32 := x >>> (y &&& 31)
def jushrL (x : Int64) (y : Int32) : Int64 := (x.toUInt64 >>> (y &&& 0x3f).toInt64.toUInt64).toInt64
def jshlL (x : Int64) (y : Int32) : Int64 := x <<< (y &&& 0x3f).toInt64
def jshrL (x : Int64) (y : Int32) : Int64 := x >>> (y &&& 0x3f).toInt64
def jb (x : Int32) : Int32 := x.toInt8.toInt32
theorem own_lrem {g : JFrame} {target : State} (X : Stand p l e R s m args below meth c T locs cells slots) (hx : p.tables.exec = Jvm.exec) (hg : g.method = m) {x y : Int64} {rest : List Value} (hd : decode c.code g.pc = .ok (.lrem, 1)) (hs : g.stack = .long y :: .long x :: rest) (hy : y ≠ 0)
    (hr : Steps p.tables e below (T.setTop { g with pc := g.pc + 1, stack := .long (x % y) :: rest }) target) : Steps p.tables e below (T.setTop g) target :=
  XS.lrem X.here hx hg hd hs hy (by rw [lrem_mod]; exact hr)
theorem own_narb (x : Int32) : nar .byte (jb x) = jb x := by simp [nar, jb]
/-! an array by its length and what its places hold -/
def own_upd (f : Nat → Value) (i : Nat) (v : Value) : Nat → Value := fun j => if j = i then v else f j
theorem own_hit (f : Nat → Value) (i : Nat) (v : Value) : own_upd f i v i = v := if_pos rfl
theorem own_miss {f : Nat → Value} {i j : Nat} {v : Value} (q : j ≠ i) : own_upd f i v j = f j := if_neg q
def AF (Z : State) (h : Heap) (a : Addr) (ty : FieldType) (n : Nat) (f : Nat → Value) : Prop := n < 2 ^ 31 ∧ ∃ c : Cell, Arr Z h a c ty ∧ c.slots.size = n ∧ ∀ j, j < n → c.slots[j]? = some (f j)
theorem AF.lt {a : Addr} {ty : FieldType} {n : Nat} {f : Nat → Value} (A : AF Z h a ty n f) : a < h.size := by obtain ⟨-, c, A, -⟩ := A; exact A.lt
theorem AF.ext {a : Addr} {ty : FieldType} {n : Nat} {f : Nat → Value} (A : AF Z h a ty n f) (E : Ext h h') : AF Z h' a ty n f := by obtain ⟨q, c, A, r⟩ := A; exact ⟨q, c, A.ext E, r⟩
theorem AF.other {a b : Addr} {sl : Nat} {v : Value} {ty : FieldType} {n : Nat} {f : Nat → Value} (A : AF Z h b ty n f) (W : Wr h h' a sl v) (q : b ≠ a) : AF Z h' b ty n f := by obtain ⟨q1, c, A, r⟩ := A; exact ⟨q1, c, A.other W q, r⟩
theorem AF.keep {a : Addr} {ws : List Addr} {ty : FieldType} {n : Nat} {f : Nat → Value} (A : AF Z h a ty n f) (K : Keep h h' ws) (q : a ∉ ws) : AF Z h' a ty n f := by obtain ⟨q1, c, A, r⟩ := A; exact ⟨q1, c, ⟨K.2.1 a c A.1 q, A.2⟩, r⟩
theorem AF.congr {a : Addr} {ty : FieldType} {n : Nat} {f f' : Nat → Value} (A : AF Z h a ty n f) (q : ∀ j, j < n → f j = f' j) : AF Z h a ty n f' := by obtain ⟨q1, c, A, S, r⟩ := A; exact ⟨q1, c, A, S, fun j hj => by rw [← q j hj]; exact r j hj⟩
theorem AF.len {a : Addr} {ty : FieldType} {n : Nat} {f : Nat → Value} (A : AF Z h a ty n f) : n < 2 ^ 31 := A.1
theorem own_idx {j : Int32} {i : Nat} (hj : j.toInt = (i : Int)) : j.toNatClampNeg = i := by simp only [Int32.toNatClampNeg, hj]; omega
theorem own_in {j : Int32} {i n : Nat} {c : Cell} (S : c.slots.size = n) (hj : j.toInt = (i : Int)) (hi : i < n) : ¬ (j < 0 ∨ c.slots.size ≤ j.toNatClampNeg) := by
  rw [own_idx hj, S, Int32.lt_iff_toInt_lt, hj]
  simp only [Int32.toInt_zero]
  omega
theorem own_set {a : Addr} {ty : FieldType} {n i : Nat} {f : Nat → Value} {cl : Cell} {v : Value} (q1 : n < 2 ^ 31) (A : Arr Z h a cl ty) (S : cl.slots.size = n) (H : ∀ j, j < n → cl.slots[j]? = some (f j)) (W : Wr h h' a i v) (hi : i < n) : AF Z h' a ty n (own_upd f i v) := by
  refine ⟨q1, _, A.same W, by rw [sz_set]; exact S, fun j hj => ?_⟩
  simp only [Cell.setSlot, own_upd]
  by_cases q : j = i
  · subst q; rw [if_pos rfl]; simp [S, hj]
  · rw [if_neg q, Array.getElem?_setIfInBounds_ne (fun z => q z.symm)]; exact H j hj
theorem own_stI (X : Stand p l e R s m args below meth c T locs cells slots) (hx : p.tables.exec = Jvm.exec) (hZ : Z.Warmed39 s.vm) (eT : T.heap = h) {a : Addr} {n i : Nat} {f : Nat → Value} (A : AF Z h a .int n f) {j x : Int32} (hj : j.toInt = (i : Int)) (hi : i < n) {g : JFrame} (hg : g.method = m) {rest : List Value} (hs : g.stack = .int x :: .int j :: .ref a :: rest) (hd : decode c.code g.pc = .ok (.iastore, 1)) :
    ∃ T' h', Stand p l e R s m args below meth c T' (locs ++ [⟨a, i⟩]) cells slots ∧ T'.heap = h' ∧ Wr h h' a i (.int x) ∧ AF Z h' a .int n (own_upd f i (.int x)) ∧ ∀ target, Steps p.tables e below (T'.setTop { g with pc := g.pc + 1, stack := rest }) target → Steps p.tables e below (T.setTop g) target := by
  obtain ⟨q1, cl, Ar, S, H⟩ := A
  obtain ⟨T', h', X', e', W, st⟩ := stI X hx hZ eT Ar (j := j) (own_in S hj hi) hg hs hd
  rw [own_idx hj] at X' W
  exact ⟨T', h', X', e', W, own_set q1 Ar S H W hi, st⟩
theorem own_stJ (X : Stand p l e R s m args below meth c T locs cells slots) (hx : p.tables.exec = Jvm.exec) (hZ : Z.Warmed39 s.vm) (eT : T.heap = h) {a : Addr} {n i : Nat} {f : Nat → Value} (A : AF Z h a .long n f) {j : Int32} {x : Int64} (hj : j.toInt = (i : Int)) (hi : i < n) {g : JFrame} (hg : g.method = m) {rest : List Value} (hs : g.stack = .long x :: .int j :: .ref a :: rest) (hd : decode c.code g.pc = .ok (.lastore, 1)) :
    ∃ T' h', Stand p l e R s m args below meth c T' (locs ++ [⟨a, i⟩]) cells slots ∧ T'.heap = h' ∧ Wr h h' a i (.long x) ∧ AF Z h' a .long n (own_upd f i (.long x)) ∧ ∀ target, Steps p.tables e below (T'.setTop { g with pc := g.pc + 1, stack := rest }) target → Steps p.tables e below (T.setTop g) target := by
  obtain ⟨q1, cl, Ar, S, H⟩ := A
  obtain ⟨T', h', X', e', W, st⟩ := stJ X hx hZ eT Ar (j := j) (own_in S hj hi) hg hs hd
  rw [own_idx hj] at X' W
  exact ⟨T', h', X', e', W, own_set q1 Ar S H W hi, st⟩
theorem own_stB (X : Stand p l e R s m args below meth c T locs cells slots) (hx : p.tables.exec = Jvm.exec) (hZ : Z.Warmed39 s.vm) (eT : T.heap = h) {a : Addr} {n i : Nat} {f : Nat → Value} (A : AF Z h a .byte n f) {j x : Int32} (hj : j.toInt = (i : Int)) (hi : i < n) (hn : nar .byte x = x) {g : JFrame} (hg : g.method = m) {rest : List Value} (hs : g.stack = .int x :: .int j :: .ref a :: rest) (hd : decode c.code g.pc = .ok (.bastore, 1)) :
    ∃ T' h', Stand p l e R s m args below meth c T' (locs ++ [⟨a, i⟩]) cells slots ∧ T'.heap = h' ∧ Wr h h' a i (.int x) ∧ AF Z h' a .byte n (own_upd f i (.int x)) ∧ ∀ target, Steps p.tables e below (T'.setTop { g with pc := g.pc + 1, stack := rest }) target → Steps p.tables e below (T.setTop g) target := by
  obtain ⟨q1, cl, Ar, S, H⟩ := A
  obtain ⟨T', h', X', e', W, st⟩ := stB X hx hZ eT Ar (j := j) (own_in S hj hi) hg hs hd
  rw [own_idx hj] at X' W
  rw [hn] at W
  exact ⟨T', h', X', e', W, own_set q1 Ar S H W hi, st⟩
theorem own_new (X : Stand p l e R s m args below meth c T locs cells slots) (hx : p.tables.exec = Jvm.exec) (hZ : Z.Warmed39 s.vm) {a0 : Array Value} {aty : ArrayType} (w : (Cond.arrayClass (newarray.typeOf aty)).before a0 Z = true) (eT : T.heap = h) {g : JFrame} (hg : g.method = m) (hd : decode c.code g.pc = .ok (.newarray aty, 2)) {n : Int32} {rest : List Value} (hs : g.stack = .int n :: rest)
    {k : Nat} (hn : n.toInt = (k : Int)) (cap : Nat) (hcap : k ≤ cap) (hb : cap * 8 ≤ 536870912) (hc : cells + 1 ≤ R.cells) (hl : slots + cap ≤ R.slots) :
    ∃ T' h' a, Stand p l e R s m args below meth c T' locs (cells + 1) (slots + cap) ∧ T'.heap = h' ∧ Ext h h' ∧ a = h.size ∧ AF Z h' a (newarray.typeOf aty) k (fun _ => defaultValue (newarray.typeOf aty)) ∧
      ∀ target, Steps p.tables e below (T'.setTop { g with pc := g.pc + 2, stack := .ref a :: rest }) target → Steps p.tables e below (T.setTop g) target := by
  have hn0 : ¬ n < 0 := by rw [Int32.lt_iff_toInt_lt, hn]; simp only [Int32.toInt_zero]; omega
  have hk : n.toNatClampNeg = k := own_idx hn
  have hk31 : k < 2 ^ 31 := by have := n.toInt_lt; omega
  obtain ⟨T', h', cA, X', e', E, A, st⟩ := newP X hx hZ w eT hg hd hs hn0 (by rw [hk]; exact hcap) hb hc hl
  refine ⟨T', h', h.size, X', e', E, rfl, ⟨hk31, _, A, by rw [sz_new, hk], fun j hj => ?_⟩, st⟩
  simp [newA, hk, hj]
theorem own_ldI (X : Stand p l e R s m args below meth c T locs cells slots) (hx : p.tables.exec = Jvm.exec) (hZ : Z.Warmed39 s.vm) (eT : T.heap = h) {a : Addr} {n i : Nat} {f : Nat → Value} (A : AF Z h a .int n f) {j : Int32} (hj : j.toInt = (i : Int)) (hi : i < n) {g : JFrame} (hg : g.method = m) {rest : List Value} (hs : g.stack = .int j :: .ref a :: rest) (hd : decode c.code g.pc = .ok (.iaload, 1)) {v : Value} (hv : f i = v) (target : State)
    (hr : Steps p.tables e below (T.setTop { g with pc := g.pc + 1, stack := v :: rest }) target) : Steps p.tables e below (T.setTop g) target := by
  obtain ⟨-, cl, Ar, S, H⟩ := A
  exact X.iaload hx (j := j) (v := v) (by rw [eT]; exact Ar.1) (State.isArrayOf_alike hZ.alike Ar.2.1) Ar.2.2 (own_in S hj hi) (by rw [own_idx hj, ← hv]; exact H i hi) hg hs hd target hr
theorem own_ldJ (X : Stand p l e R s m args below meth c T locs cells slots) (hx : p.tables.exec = Jvm.exec) (hZ : Z.Warmed39 s.vm) (eT : T.heap = h) {a : Addr} {n i : Nat} {f : Nat → Value} (A : AF Z h a .long n f) {j : Int32} (hj : j.toInt = (i : Int)) (hi : i < n) {g : JFrame} (hg : g.method = m) {rest : List Value} (hs : g.stack = .int j :: .ref a :: rest) (hd : decode c.code g.pc = .ok (.laload, 1)) {v : Value} (hv : f i = v) (target : State)
    (hr : Steps p.tables e below (T.setTop { g with pc := g.pc + 1, stack := v :: rest }) target) : Steps p.tables e below (T.setTop g) target := by
  obtain ⟨-, cl, Ar, S, H⟩ := A
  exact X.laload hx (j := j) (v := v) (by rw [eT]; exact Ar.1) (State.isArrayOf_alike hZ.alike Ar.2.1) Ar.2.2 (own_in S hj hi) (by rw [own_idx hj, ← hv]; exact H i hi) hg hs hd target hr
theorem own_ldB (X : Stand p l e R s m args below meth c T locs cells slots) (hx : p.tables.exec = Jvm.exec) (hZ : Z.Warmed39 s.vm) (eT : T.heap = h) {a : Addr} {n i : Nat} {f : Nat → Value} (A : AF Z h a .byte n f) {j : Int32} (hj : j.toInt = (i : Int)) (hi : i < n) {g : JFrame} (hg : g.method = m) {rest : List Value} (hs : g.stack = .int j :: .ref a :: rest) (hd : decode c.code g.pc = .ok (.baload, 1)) {v : Value} (hv : f i = v) (target : State)
    (hr : Steps p.tables e below (T.setTop { g with pc := g.pc + 1, stack := v :: rest }) target) : Steps p.tables e below (T.setTop g) target := by
  obtain ⟨-, cl, Ar, S, H⟩ := A
  exact X.baloadBytes hx (j := j) (v := v) (by rw [eT]; exact Ar.1) (State.isArrayOf_alike hZ.alike Ar.2.1) Ar.2.2 (own_in S hj hi) (by rw [own_idx hj, ← hv]; exact H i hi) hg hs hd target hr
theorem own_len (X : Stand p l e R s m args below meth c T locs cells slots) (hx : p.tables.exec = Jvm.exec) (hZ : Z.Warmed39 s.vm) (eT : T.heap = h) {a : Addr} {ty : FieldType} {n : Nat} {f : Nat → Value} (A : AF Z h a ty n f) {g : JFrame} (hg : g.method = m) {rest : List Value} (hs : g.stack = .ref a :: rest) (hd : decode c.code g.pc = .ok (.arraylength, 1)) (target : State)
    (hr : Steps p.tables e below (T.setTop { g with pc := g.pc + 1, stack := .int (Int32.ofNat n) :: rest }) target) : Steps p.tables e below (T.setTop g) target := by
  obtain ⟨-, cl, Ar, S, H⟩ := A
  refine X.arraylength hx (by rw [eT]; exact Ar.1) (State.isArrayOf_alike hZ.alike Ar.2.1) hg hs hd target ?_
  rw [S]; exact hr
end OwnKit
theorem pd_1 : parseMethodDescriptor "(I)[I" = some ⟨[.int], some (.array .int)⟩ := by decide +kernel
def own_nums (i : Nat) : Nat → Value := fun j => .int (if j < i then Int32.ofNat j else 0)
theorem own_nat {i : Nat} (h : i < 2 ^ 31) : (Int32.ofNat i).toInt = (i : Int) := Int32.toInt_ofNat_small h
theorem own_no {p1 : Int32} {i n : Nat} (hn : p1.toInt = (n : Int)) (h : i = n) : ¬ (Int32.ofNat i < p1) := by
  have hl := p1.toInt_lt
  rw [Int32.lt_iff_toInt_lt, own_nat (by omega), hn]
  omega
theorem own_yes {p1 : Int32} {i n : Nat} (hn : p1.toInt = (n : Int)) (hn255 : n ≤ 255) (h : i < n) : Int32.ofNat i < p1 := by
  rw [Int32.lt_iff_toInt_lt, own_nat (by omega), hn]
  omega
theorem own_inc (i : Nat) : Int32.ofNat i + (1 : Int32) = Int32.ofNat (i + 1) := (inc_ofNat i).symm
theorem own_next {i n : Nat} (j : Nat) (hj : j < n) : own_upd (own_nums i) i (.int (Int32.ofNat i)) j = own_nums (i + 1) j := by
  unfold own_upd own_nums
  by_cases q : j = i
  · subst q; rw [if_pos rfl, if_pos (by omega)]
  · rw [if_neg q]
    by_cases q2 : j < i
    · rw [if_pos q2, if_pos (by omega)]
    · rw [if_neg q2, if_neg (by omega)]
theorem own_all {i j : Nat} (h : j < i) : own_nums i j = .int (Int32.ofNat j) := by
  unfold own_nums; rw [if_pos h]
theorem d1_0 : decode prog_62_method_2_code 0 = .ok (.iload_n 0, 1) := by decide +kernel
theorem d1_1 : decode prog_62_method_2_code 1 = .ok (.newarray .int, 2) := by decide +kernel
theorem d1_3 : decode prog_62_method_2_code 3 = .ok (.astore_n 1, 1) := by decide +kernel
theorem d1_4 : decode prog_62_method_2_code 4 = .ok (.iconst 0, 1) := by decide +kernel
theorem d1_5 : decode prog_62_method_2_code 5 = .ok (.istore_n 2, 1) := by decide +kernel
theorem d1_6 : decode prog_62_method_2_code 6 = .ok (.iload_n 2, 1) := by decide +kernel
theorem d1_7 : decode prog_62_method_2_code 7 = .ok (.iload_n 0, 1) := by decide +kernel
theorem d1_8 : decode prog_62_method_2_code 8 = .ok (.if_icmp .ge 13, 3) := by decide +kernel
theorem d1_11 : decode prog_62_method_2_code 11 = .ok (.aload_n 1, 1) := by decide +kernel
theorem d1_12 : decode prog_62_method_2_code 12 = .ok (.iload_n 2, 1) := by decide +kernel
theorem d1_13 : decode prog_62_method_2_code 13 = .ok (.iload_n 2, 1) := by decide +kernel
theorem d1_14 : decode prog_62_method_2_code 14 = .ok (.iastore, 1) := by decide +kernel
theorem d1_15 : decode prog_62_method_2_code 15 = .ok (.iinc 2 1, 3) := by decide +kernel
theorem d1_18 : decode prog_62_method_2_code 18 = .ok (.goto (-12), 3) := by decide +kernel
theorem d1_21 : decode prog_62_method_2_code 21 = .ok (.aload_n 1, 1) := by decide +kernel
theorem d1_22 : decode prog_62_method_2_code 22 = .ok (.areturn, 1) := by decide +kernel
theorem pn_3 : plainName "com/example/bipartite_map/bipartitemap/order/AnchorOrders" = true := by first | (simp [plainName, overriddenIn]; done) | decide +kernel
theorem ef_rm1 (m : MethodId) (p1 : Int32) : entryFrame m #[(.int p1)] 3 = mkF m 0 #[.val (.int p1), .unset, .unset] [] := by first | (simp [entryFrame, mkF, argsToLocals, Value.category]; done) | rfl
def Q_rm1 (Z : State) (p1 : Int32) (n : Nat) (h0 : Heap) (n0 : Nat) (v : Option Value) (h : Heap) (L : List Loc) : Prop := ∃ b, v = some (.ref b) ∧ Fr n0 L ∧ n0 ≤ b ∧ h0.size ≤ b ∧ Keep h0 h [] ∧ AF Z h b .int n (fun j => .int (Int32.ofNat j))
set_option maxRecDepth 65536 in
set_option maxHeartbeats 40000000 in
theorem rm1 (l : Launch) (Z : State) (a0 : Array Value) (hw : ∀ d ∈ tables_1, d.before a0 Z = true) (ws : List Jvm.Cond) (p1 : Int32) (n : Nat) (h0 : Heap) (n0 : Nat) (Z0 : n0 ≤ h0.size) (hn : p1.toInt = (n : Int)) (hn255 : n ≤ 255) :
    MetFree l (⟨"com/example/bipartite_map/bipartitemap/order/AnchorOrders", "numberOrder", "(I)[I"⟩ : MethodName) (head1 (Jvm.Cond.code (⟨"com/example/bipartite_map/bipartitemap/order/AnchorOrders", "numberOrder", "(I)[I"⟩ : MethodName) prog_62_method_2_code 3 (some (.array .int)) :: ws) ({ frames := 0, cells := 1, slots := 255, locals := 0 } : Room)) (fun a U => a = #[(.int p1)] ∧ Z.Warmed39 U.vm ∧ U.heap = h0) (fun _ _ _ _ _ => True) (fun _ U o U' => ∃ v L, o = .returned v ∧ Q_rm1 Z p1 n h0 n0 v U'.heap L ∧ FrameEnd U o U' L ({ frames := 0, cells := 1, slots := 255, locals := 0 } : Room).cells ({ frames := 0, cells := 1, slots := 255, locals := 0 } : Room).slots) := by
  refine own_body (Q := Q_rm1 Z p1 n h0 n0) (plainFor_of_name pn_3) ?_
  intro p e s m below meth c s₁ K go fin X0 hx hby hml hown hnm hret hZ e0
  have hown : s.vm.findClass "com/example/bipartite_map/bipartitemap/order/AnchorOrders" = some m.cls := hown
  have N0 := Fr.nil n0
  have K0 : Keep h0 h0 [] := Keep.refl h0 _
  refine go _ (s₁.setTop (mkF m 0 #[.val (.int p1), .unset, .unset] [])) (fun t k => castTop (ef_rm1 m p1) k) ?_
  refine go _ (s₁.setTop (mkF m 1 #[.val (.int p1), .unset, .unset] [(.int p1)])) (fun t k => XS.iloadN X0.here hx rfl (hb hby d1_0) rfl k) ?_
  obtain ⟨T1, h1, b1, X1, e1, E1, g1, A1, st1⟩ := own_new X0 hx hZ (hw _ (List.mem_of_getElem? (i := 4) rfl)) e0 (g := (mkF m 1 #[.val (.int p1), .unset, .unset] [(.int p1)])) rfl (hb hby d1_1) rfl (k := n) hn 255 hn255 (by decide) (by decide) (by decide)
  have Z2 : n0 ≤ h1.size := Nat.le_trans Z0 E1.1
  have ge_b1 : n0 ≤ b1 := by rw [g1]; exact Z0
  have sz_b1 : h0.size ≤ b1 := by rw [g1]; exact K0.1
  have K3 := K0.ext E1
  have A1' : AF Z h1 b1 .int n (fun _ => .int 0) := A1
  refine go _ (T1.setTop (mkF m 3 #[.val (.int p1), .unset, .unset] [(.ref b1)])) (st1) ?_
  refine go _ (T1.setTop (mkF m 4 #[.val (.int p1), .val (.ref b1), .unset] [])) (fun t k => XS.astoreN X1.here hx rfl (hb hby d1_3) rfl rfl (l' := #[.val (.int p1), .val (.ref b1), .unset]) rfl k) ?_
  refine go _ (T1.setTop (mkF m 5 #[.val (.int p1), .val (.ref b1), .unset] [(.int (0 : Int32))])) (fun t k => XS.iconst X1.here hx rfl (hb hby d1_4) k) ?_
  refine go _ (T1.setTop (mkF m 6 #[.val (.int p1), .val (.ref b1), .val (.int (0 : Int32))] [])) (fun t k => XS.istoreN X1.here hx rfl (hb hby d1_5) rfl (l' := #[.val (.int p1), .val (.ref b1), .val (.int (0 : Int32))]) rfl k) ?_
  have loop : ∀ (k i : Nat) (T : State) (h : Heap) (locs : List Loc), i + k = n → Stand p l e ({ frames := 0, cells := 1, slots := 255, locals := 0 } : Room) s m #[(.int p1)] below meth c T locs (0 + 1) (0 + 255) → T.heap = h → n0 ≤ h.size → Fr n0 locs → Keep h0 h [] → AF Z h b1 .int n (own_nums i) → K (T.setTop (mkF m 6 #[.val (.int p1), .val (.ref b1), .val (.int (Int32.ofNat i))] [])) := by
    intro k
    induction k with
    | zero =>
      intro i T h locs hik X eh Zs Nf Kp A
      refine go _ (T.setTop (mkF m 7 #[.val (.int p1), .val (.ref b1), .val (.int (Int32.ofNat i))] [(.int (Int32.ofNat i))])) (fun t k => XS.iloadN X.here hx rfl (hb hby d1_6) rfl k) ?_
      refine go _ (T.setTop (mkF m 8 #[.val (.int p1), .val (.ref b1), .val (.int (Int32.ofNat i))] [(.int p1), (.int (Int32.ofNat i))])) (fun t k => XS.iloadN X.here hx rfl (hb hby d1_7) rfl k) ?_
      have hc4 : ¬ ((Int32.ofNat i) < p1) := own_no hn (by omega)
      refine go _ (T.setTop (mkF m 21 #[.val (.int p1), .val (.ref b1), .val (.int (Int32.ofNat i))] [])) (fun t k => XS.icmpYes X.here hx rfl (pc0 := 8) (pc' := 21) rfl (hb hby d1_8) rfl (flt hc4).2.1 (by decide) (by decide) k) ?_
      refine go _ (T.setTop (mkF m 22 #[.val (.int p1), .val (.ref b1), .val (.int (Int32.ofNat i))] [(.ref b1)])) (fun t k => XS.aloadN X.here hx rfl (hb hby d1_21) rfl rfl k) ?_
      exact fin (some (.ref b1)) X (by decide) (by decide) (fun q => by cases q) (show Q_rm1 Z p1 n h0 n0 _ T.heap _ from (by rw [eh]; exact ⟨b1, rfl, Nf, ge_b1, sz_b1, Kp, A.congr fun j hj => own_all (by omega)⟩)) (fun fs hr => retA X hx hret rfl (hb hby d1_22) hr)
    | succ k ih =>
      intro i T h locs hik X eh Zs Nf Kp A
      refine go _ (T.setTop (mkF m 7 #[.val (.int p1), .val (.ref b1), .val (.int (Int32.ofNat i))] [(.int (Int32.ofNat i))])) (fun t k => XS.iloadN X.here hx rfl (hb hby d1_6) rfl k) ?_
      refine go _ (T.setTop (mkF m 8 #[.val (.int p1), .val (.ref b1), .val (.int (Int32.ofNat i))] [(.int p1), (.int (Int32.ofNat i))])) (fun t k => XS.iloadN X.here hx rfl (hb hby d1_7) rfl k) ?_
      have hc5 : ((Int32.ofNat i) < p1) := own_yes hn hn255 (by omega)
      refine go _ (T.setTop (mkF m 11 #[.val (.int p1), .val (.ref b1), .val (.int (Int32.ofNat i))] [])) (fun t k => XS.icmpNo X.here hx rfl (hb hby d1_8) rfl (tlt hc5).2.1 k) ?_
      refine go _ (T.setTop (mkF m 12 #[.val (.int p1), .val (.ref b1), .val (.int (Int32.ofNat i))] [(.ref b1)])) (fun t k => XS.aloadN X.here hx rfl (hb hby d1_11) rfl rfl k) ?_
      refine go _ (T.setTop (mkF m 13 #[.val (.int p1), .val (.ref b1), .val (.int (Int32.ofNat i))] [(.int (Int32.ofNat i)), (.ref b1)])) (fun t k => XS.iloadN X.here hx rfl (hb hby d1_12) rfl k) ?_
      refine go _ (T.setTop (mkF m 14 #[.val (.int p1), .val (.ref b1), .val (.int (Int32.ofNat i))] [(.int (Int32.ofNat i)), (.int (Int32.ofNat i)), (.ref b1)])) (fun t k => XS.iloadN X.here hx rfl (hb hby d1_13) rfl k) ?_
      obtain ⟨T6, h6, X6, e6, W6, A6, st6⟩ := own_stI X hx hZ eh A (i := i) (own_nat (by omega)) (by omega) (g := (mkF m 14 #[.val (.int p1), .val (.ref b1), .val (.int (Int32.ofNat i))] [(.int (Int32.ofNat i)), (.int (Int32.ofNat i)), (.ref b1)])) rfl rfl (hb hby d1_14)
      have Z7 : n0 ≤ h6.size := by rw [W6.size]; exact Zs
      have N8 := Fr.snoc X6 Nf ge_b1
      have K9 := Kp.wr W6 (Or.inr sz_b1)
      refine go _ (T6.setTop (mkF m 15 #[.val (.int p1), .val (.ref b1), .val (.int (Int32.ofNat i))] [])) (st6) ?_
      refine go _ (T6.setTop (mkF m 18 #[.val (.int p1), .val (.ref b1), .val (.int ((Int32.ofNat i) + (1 : Int32)))] [])) (fun t k => XS.iinc X6.here hx rfl (hb hby d1_15) rfl (l' := #[.val (.int p1), .val (.ref b1), .val (.int ((Int32.ofNat i) + (1 : Int32)))]) rfl k) ?_
      refine go _ (T6.setTop (mkF m 6 #[.val (.int p1), .val (.ref b1), .val (.int ((Int32.ofNat i) + (1 : Int32)))] [])) (fun t k => XS.goto X6.here hx rfl (pc0 := 18) (pc' := 6) rfl (hb hby d1_18) (by decide) (by decide) k) ?_
      rw [own_inc]
      exact ih (i + 1) _ _ _ (by omega) X6 e6 Z7 N8 K9 (A6.congr own_next)
  exact loop n 0 _ _ _ (by omega) X1 e1 Z2 N0 K3 (A1'.congr fun j hj => rfl)
theorem pn_5 : plainName "com/example/bipartite_map/bipartitemap/order/AnchorOrdersNumberOrderPinLaw" = true := by first | (simp [plainName, overriddenIn]; done) | decide +kernel
theorem ef_rm0 (m : MethodId) (p1 : Int32) (p2 : Int32) : entryFrame m #[(.int p1), (.int p2)] maxLocals = mkF m 0 #[.val (.int p1), .val (.int p2), .unset, .unset, .unset, .unset] [] := by first | (simp [entryFrame, mkF, argsToLocals, Value.category, maxLocals]; done) | rfl
def v_rm0_0 (p2 : Int32) (p1 : Int32) : Int32 := ((p2 &&& (2147483647 : Int32)) % (p1 &&& (255 : Int32)))
theorem own_n (p1 : Int32) : ∃ n : Nat, n ≤ 255 ∧ (p1 &&& (255 : Int32)).toInt = (n : Int) := by
  have m := c_mask p1 255 8 (by decide) (by decide +kernel)
  exact ⟨(p1 &&& (255 : Int32)).toInt.toNat, by omega, by omega⟩
theorem own_ofn {x : Int32} {n : Nat} (hn : x.toInt = (n : Int)) : Int32.ofNat n = x := by
  have hl := x.toInt_lt
  rw [← Int32.toInt_inj, hn, own_nat (by omega)]
theorem own_lenq {x : Int32} {n : Nat} (hn : x.toInt = (n : Int)) (h : n ≤ 255) : Int32.ofNat n = x := own_ofn hn
theorem own_k (p1 p2 : Int32) {n : Nat} (hn : (p1 &&& (255 : Int32)).toInt = (n : Int)) (h : ¬ ((p1 &&& (255 : Int32)) = (0 : Int32))) : ∃ i : Nat, i < n ∧ (v_rm0_0 p2 p1).toInt = (i : Int) := by
  have m := c_mask p2 2147483647 31 (by decide) (by decide +kernel)
  have e0 : (0 : Int32).toInt = 0 := by decide
  rw [← Int32.toInt_inj, e0, hn] at h
  have q := (c_iremV (p2 &&& 2147483647) (p1 &&& 255)).1 (by omega) (by omega)
  refine ⟨(v_rm0_0 p2 p1).toInt.toNat, ?_, ?_⟩
  · unfold v_rm0_0; omega
  · unfold v_rm0_0; omega
def Q_rm0 (Z : State) (p1 : Int32) (p2 : Int32) (h0 : Heap) (n0 : Nat) (v : Option Value) (h : Heap) (L : List Loc) : Prop := v = some (.int (1 : Int32)) ∧ Fr n0 L
set_option maxRecDepth 65536 in
set_option maxHeartbeats 40000000 in
theorem rm0 (l : Launch) (Z : State) (a0 : Array Value) (hw : ∀ d ∈ tables_1, d.before a0 Z = true) (ws : List Jvm.Cond) (p1 : Int32) (p2 : Int32) (h0 : Heap) (n0 : Nat) (Z0 : n0 ≤ h0.size)  :
    MetFree l x (head1 (Jvm.Cond.code x code maxLocals ret :: ws) room_1) (fun a U => a = #[(.int p1), (.int p2)] ∧ Z.Warmed39 U.vm ∧ U.heap = h0) (fun _ _ _ _ _ => True) (fun _ U o U' => ∃ v L, o = .returned v ∧ Q_rm0 Z p1 p2 h0 n0 v U'.heap L ∧ FrameEnd U o U' L room_1.cells room_1.slots) := by
  refine own_body (Q := Q_rm0 Z p1 p2 h0 n0) (plainFor_of_name pn_5) ?_
  intro p e s m below meth c s₁ K go fin X0 hx hby hml hown hnm hret hZ e0
  have hown : s.vm.findClass "com/example/bipartite_map/bipartitemap/order/AnchorOrdersNumberOrderPinLaw" = some m.cls := hown
  have N0 := Fr.nil n0
  refine go _ (s₁.setTop (mkF m 0 #[.val (.int p1), .val (.int p2), .unset, .unset, .unset, .unset] [])) (fun t k => castTop (ef_rm0 m p1 p2) k) ?_
  obtain ⟨n, hn255, hn⟩ := own_n p1
  refine go _ (s₁.setTop (mkF m 1 #[.val (.int p1), .val (.int p2), .unset, .unset, .unset, .unset] [(.int p1)])) (fun t k => XS.iloadN X0.here hx rfl (hb hby at_0) rfl k) ?_
  refine go _ (s₁.setTop (mkF m 4 #[.val (.int p1), .val (.int p2), .unset, .unset, .unset, .unset] [(.int (255 : Int32)), (.int p1)])) (fun t k => XS.sipush X0.here hx rfl (hb hby at_1) k) ?_
  refine go _ (s₁.setTop (mkF m 5 #[.val (.int p1), .val (.int p2), .unset, .unset, .unset, .unset] [(.int (p1 &&& (255 : Int32)))])) (fun t k => XS.iand X0.here hx rfl (hb hby at_4) rfl k) ?_
  refine go _ (s₁.setTop (mkF m 6 #[.val (.int p1), .val (.int p2), .val (.int (p1 &&& (255 : Int32))), .unset, .unset, .unset] [])) (fun t k => XS.istoreN X0.here hx rfl (hb hby at_5) rfl (l' := #[.val (.int p1), .val (.int p2), .val (.int (p1 &&& (255 : Int32))), .unset, .unset, .unset]) rfl k) ?_
  refine go _ (s₁.setTop (mkF m 7 #[.val (.int p1), .val (.int p2), .val (.int (p1 &&& (255 : Int32))), .unset, .unset, .unset] [(.int (p1 &&& (255 : Int32)))])) (fun t k => XS.iloadN X0.here hx rfl (hb hby at_6) rfl k) ?_
  obtain ⟨_, _, ⟨T10, L10, k10, n10⟩, -, X10, ⟨Lc10, hQ10, l10, y10, z10⟩, st10⟩ := Jvm.LawKit.callS X0 hx (y := (⟨"com/example/bipartite_map/bipartitemap/order/AnchorOrders", "numberOrder", "(I)[I"⟩ : MethodName)) hown (mvT hZ (hw _ (List.mem_of_getElem? (i := 0) rfl))) (mvT hZ (hw _ (List.mem_of_getElem? (i := 1) rfl))) (mvT hZ (hw _ (List.mem_of_getElem? (i := 2) rfl))) (mvT hZ (hw _ (List.mem_of_getElem? (i := 3) rfl))) (by decide) (backOf (W := 0) (rm1 l Z a0 hw [] (p1 &&& (255 : Int32)) n h0 n0 Z0 hn hn255) hZ (hw _ (List.mem_of_getElem? (i := 3) rfl)) (hw _ (List.mem_of_getElem? (i := 2) rfl)) (by decide) (by decide)) (g := (mkF m 7 #[.val (.int p1), .val (.int p2), .val (.int (p1 &&& (255 : Int32))), .unset, .unset, .unset] [(.int (p1 &&& (255 : Int32)))])) rfl (by rw [hml]; rfl) (argsL := [(.int (p1 &&& (255 : Int32)))]) (rest := []) (lenOf pd_1 rfl) rfl (by show 2 * 0 + _ ≤ _; exact Nat.le_of_eq rfl) (hb hby at_7) (fun _ _ => ⟨rfl, e0, (by decide : 0 + 1 ≤ _), (by decide : 0 + 255 ≤ _)⟩)
  dsimp only [Pt.U, Pt.locs, Pt.cells, Pt.slots] at X10 l10 y10 z10 st10 hQ10
  subst l10 y10 z10
  obtain ⟨b10, rfl, Nq10, geq10, szq10, Kq10, Aq10⟩ := hQ10
  have N11 := Fr.app N0 Nq10
  have Z12 : n0 ≤ T10.heap.size := Nat.le_trans Z0 Kq10.1
  refine go _ (T10.setTop (mkF m 10 #[.val (.int p1), .val (.int p2), .val (.int (p1 &&& (255 : Int32))), .unset, .unset, .unset] [(.ref b10)])) (st10) ?_
  refine go _ (T10.setTop (mkF m 11 #[.val (.int p1), .val (.int p2), .val (.int (p1 &&& (255 : Int32))), .val (.ref b10), .unset, .unset] [])) (fun t k => XS.astoreN X10.here hx rfl (hb hby at_10) rfl rfl (l' := #[.val (.int p1), .val (.int p2), .val (.int (p1 &&& (255 : Int32))), .val (.ref b10), .unset, .unset]) rfl k) ?_
  refine go _ (T10.setTop (mkF m 12 #[.val (.int p1), .val (.int p2), .val (.int (p1 &&& (255 : Int32))), .val (.ref b10), .unset, .unset] [(.ref b10)])) (fun t k => XS.aloadN X10.here hx rfl (hb hby at_11) rfl rfl k) ?_
  refine go _ (T10.setTop (mkF m 13 #[.val (.int p1), .val (.int p2), .val (.int (p1 &&& (255 : Int32))), .val (.ref b10), .unset, .unset] [(.int (Int32.ofNat n))])) (own_len X10 hx hZ rfl Aq10 (g := (mkF m 12 #[.val (.int p1), .val (.int p2), .val (.int (p1 &&& (255 : Int32))), .val (.ref b10), .unset, .unset] [(.ref b10)])) rfl rfl (hb hby at_12)) ?_
  refine go _ (T10.setTop (mkF m 14 #[.val (.int p1), .val (.int p2), .val (.int (p1 &&& (255 : Int32))), .val (.ref b10), .unset, .unset] [(.int (p1 &&& (255 : Int32))), (.int (Int32.ofNat n))])) (fun t k => XS.iloadN X10.here hx rfl (hb hby at_13) rfl k) ?_
  have hc13 : ((Int32.ofNat n) = (p1 &&& (255 : Int32))) := own_lenq hn hn255
  refine go _ (T10.setTop (mkF m 19 #[.val (.int p1), .val (.int p2), .val (.int (p1 &&& (255 : Int32))), .val (.ref b10), .unset, .unset] [])) (fun t k => XS.icmpYes X10.here hx rfl (pc0 := 14) (pc' := 19) rfl (hb hby at_14) rfl (teq hc13).1 (by decide) (by decide) k) ?_
  refine go _ (T10.setTop (mkF m 20 #[.val (.int p1), .val (.int p2), .val (.int (p1 &&& (255 : Int32))), .val (.ref b10), .unset, .unset] [(.int (p1 &&& (255 : Int32)))])) (fun t k => XS.iloadN X10.here hx rfl (hb hby at_19) rfl k) ?_
  by_cases hc14 : (p1 &&& (255 : Int32)) = (0 : Int32)
  · refine go _ (T10.setTop (mkF m 23 #[.val (.int p1), .val (.int p2), .val (.int (p1 &&& (255 : Int32))), .val (.ref b10), .unset, .unset] [])) (fun t k => XS.ifNo X10.here hx rfl (hb hby at_20) rfl ((if0 _ _).trans (teq hc14).2) k) ?_
    refine go _ (T10.setTop (mkF m 24 #[.val (.int p1), .val (.int p2), .val (.int (p1 &&& (255 : Int32))), .val (.ref b10), .unset, .unset] [(.int (1 : Int32))])) (fun t k => XS.iconst X10.here hx rfl (hb hby at_23) k) ?_
    exact fin (some (.int (1 : Int32))) X10 (by decide) (by decide) (fun q => by cases q) (show Q_rm0 Z p1 p2 h0 n0 _ T10.heap _ from ⟨rfl, N11⟩) (fun fs hr => retN X10 hx (t := .boolean) hret (by simp) (hb hby at_24) hr)
  · refine go _ (T10.setTop (mkF m 25 #[.val (.int p1), .val (.int p2), .val (.int (p1 &&& (255 : Int32))), .val (.ref b10), .unset, .unset] [])) (fun t k => XS.ifYes X10.here hx rfl (pc0 := 20) (pc' := 25) rfl (hb hby at_20) rfl ((if0 _ _).trans (feq hc14).2) (by decide) (by decide) k) ?_
    refine go _ (T10.setTop (mkF m 26 #[.val (.int p1), .val (.int p2), .val (.int (p1 &&& (255 : Int32))), .val (.ref b10), .unset, .unset] [(.int p2)])) (fun t k => XS.iloadN X10.here hx rfl (hb hby at_25) rfl k) ?_
    refine go _ (T10.setTop (mkF m 28 #[.val (.int p1), .val (.int p2), .val (.int (p1 &&& (255 : Int32))), .val (.ref b10), .unset, .unset] [(.int (2147483647 : Int32)), (.int p2)])) (X10.ldcInt hx hown (mvT hZ (hw _ (List.mem_of_getElem? (i := 5) rfl))) (g := (mkF m 26 #[.val (.int p1), .val (.int p2), .val (.int (p1 &&& (255 : Int32))), .val (.ref b10), .unset, .unset] [(.int p2)])) rfl (hb hby at_26)) ?_
    refine go _ (T10.setTop (mkF m 29 #[.val (.int p1), .val (.int p2), .val (.int (p1 &&& (255 : Int32))), .val (.ref b10), .unset, .unset] [(.int (p2 &&& (2147483647 : Int32)))])) (fun t k => XS.iand X10.here hx rfl (hb hby at_28) rfl k) ?_
    refine go _ (T10.setTop (mkF m 30 #[.val (.int p1), .val (.int p2), .val (.int (p1 &&& (255 : Int32))), .val (.ref b10), .unset, .unset] [(.int (p1 &&& (255 : Int32))), (.int (p2 &&& (2147483647 : Int32)))])) (fun t k => XS.iloadN X10.here hx rfl (hb hby at_29) rfl k) ?_
    refine go _ (T10.setTop (mkF m 31 #[.val (.int p1), .val (.int p2), .val (.int (p1 &&& (255 : Int32))), .val (.ref b10), .unset, .unset] [(.int ((p2 &&& (2147483647 : Int32)) % (p1 &&& (255 : Int32))))])) (fun t k => iremM X10 hx rfl (hb hby at_30) rfl hc14 k) ?_
    refine go _ (T10.setTop (mkF m 33 #[.val (.int p1), .val (.int p2), .val (.int (p1 &&& (255 : Int32))), .val (.ref b10), .val (.int (v_rm0_0 p2 p1)), .unset] [])) (fun t k => XS.istore X10.here hx rfl (hb hby at_31) rfl (l' := #[.val (.int p1), .val (.int p2), .val (.int (p1 &&& (255 : Int32))), .val (.ref b10), .val (.int (v_rm0_0 p2 p1)), .unset]) rfl k) ?_
    refine go _ (T10.setTop (mkF m 34 #[.val (.int p1), .val (.int p2), .val (.int (p1 &&& (255 : Int32))), .val (.ref b10), .val (.int (v_rm0_0 p2 p1)), .unset] [(.ref b10)])) (fun t k => XS.aloadN X10.here hx rfl (hb hby at_33) rfl rfl k) ?_
    refine go _ (T10.setTop (mkF m 36 #[.val (.int p1), .val (.int p2), .val (.int (p1 &&& (255 : Int32))), .val (.ref b10), .val (.int (v_rm0_0 p2 p1)), .unset] [(.int (v_rm0_0 p2 p1)), (.ref b10)])) (fun t k => XS.iload X10.here hx rfl (hb hby at_34) rfl k) ?_
    obtain ⟨i, hi, hj⟩ := own_k p1 p2 hn hc14
    refine go _ (T10.setTop (mkF m 37 #[.val (.int p1), .val (.int p2), .val (.int (p1 &&& (255 : Int32))), .val (.ref b10), .val (.int (v_rm0_0 p2 p1)), .unset] [(.int (Int32.ofNat i))])) (own_ldI X10 hx hZ rfl Aq10 (i := i) hj hi (g := (mkF m 36 #[.val (.int p1), .val (.int p2), .val (.int (p1 &&& (255 : Int32))), .val (.ref b10), .val (.int (v_rm0_0 p2 p1)), .unset] [(.int (v_rm0_0 p2 p1)), (.ref b10)])) rfl rfl (hb hby at_36) (v := (.int (Int32.ofNat i))) rfl) ?_
    refine go _ (T10.setTop (mkF m 39 #[.val (.int p1), .val (.int p2), .val (.int (p1 &&& (255 : Int32))), .val (.ref b10), .val (.int (v_rm0_0 p2 p1)), .unset] [(.int (v_rm0_0 p2 p1)), (.int (Int32.ofNat i))])) (fun t k => XS.iload X10.here hx rfl (hb hby at_37) rfl k) ?_
    have hc15 : ((Int32.ofNat i) = (v_rm0_0 p2 p1)) := own_ofn hj
    refine go _ (T10.setTop (mkF m 44 #[.val (.int p1), .val (.int p2), .val (.int (p1 &&& (255 : Int32))), .val (.ref b10), .val (.int (v_rm0_0 p2 p1)), .unset] [])) (fun t k => XS.icmpYes X10.here hx rfl (pc0 := 39) (pc' := 44) rfl (hb hby at_39) rfl (teq hc15).1 (by decide) (by decide) k) ?_
    refine go _ (T10.setTop (mkF m 45 #[.val (.int p1), .val (.int p2), .val (.int (p1 &&& (255 : Int32))), .val (.ref b10), .val (.int (v_rm0_0 p2 p1)), .unset] [(.ref b10)])) (fun t k => XS.aloadN X10.here hx rfl (hb hby at_44) rfl rfl k) ?_
    refine go _ (T10.setTop (mkF m 47 #[.val (.int p1), .val (.int p2), .val (.int (p1 &&& (255 : Int32))), .val (.ref b10), .val (.int (v_rm0_0 p2 p1)), .unset] [(.int (v_rm0_0 p2 p1)), (.ref b10)])) (fun t k => XS.iload X10.here hx rfl (hb hby at_45) rfl k) ?_
    refine go _ (T10.setTop (mkF m 49 #[.val (.int p1), .val (.int p2), .val (.int (p1 &&& (255 : Int32))), .val (.ref b10), .val (.int (v_rm0_0 p2 p1)), .unset] [(.int (v_rm0_0 p2 p1)), (.int (v_rm0_0 p2 p1)), (.ref b10)])) (fun t k => XS.iload X10.here hx rfl (hb hby at_47) rfl k) ?_
    refine go _ (T10.setTop (mkF m 50 #[.val (.int p1), .val (.int p2), .val (.int (p1 &&& (255 : Int32))), .val (.ref b10), .val (.int (v_rm0_0 p2 p1)), .unset] [(.int (1 : Int32)), (.int (v_rm0_0 p2 p1)), (.int (v_rm0_0 p2 p1)), (.ref b10)])) (fun t k => XS.iconst X10.here hx rfl (hb hby at_49) k) ?_
    refine go _ (T10.setTop (mkF m 51 #[.val (.int p1), .val (.int p2), .val (.int (p1 &&& (255 : Int32))), .val (.ref b10), .val (.int (v_rm0_0 p2 p1)), .unset] [(.int ((v_rm0_0 p2 p1) + (1 : Int32))), (.int (v_rm0_0 p2 p1)), (.ref b10)])) (fun t k => XS.iadd X10.here hx rfl (hb hby at_50) rfl k) ?_
    obtain ⟨T16, h16, X16, e16, W16, A16, st16⟩ := own_stI X10 hx hZ rfl Aq10 (i := i) hj hi (g := (mkF m 51 #[.val (.int p1), .val (.int p2), .val (.int (p1 &&& (255 : Int32))), .val (.ref b10), .val (.int (v_rm0_0 p2 p1)), .unset] [(.int ((v_rm0_0 p2 p1) + (1 : Int32))), (.int (v_rm0_0 p2 p1)), (.ref b10)])) rfl rfl (hb hby at_51)
    have Z17 : n0 ≤ h16.size := by rw [W16.size]; exact Z12
    have N18 := Fr.snoc X16 N11 geq10
    refine go _ (T16.setTop (mkF m 52 #[.val (.int p1), .val (.int p2), .val (.int (p1 &&& (255 : Int32))), .val (.ref b10), .val (.int (v_rm0_0 p2 p1)), .unset] [])) (st16) ?_
    refine go _ (T16.setTop (mkF m 53 #[.val (.int p1), .val (.int p2), .val (.int (p1 &&& (255 : Int32))), .val (.ref b10), .val (.int (v_rm0_0 p2 p1)), .unset] [(.int (p1 &&& (255 : Int32)))])) (fun t k => XS.iloadN X16.here hx rfl (hb hby at_52) rfl k) ?_
    obtain ⟨_, _, ⟨T19, L19, k19, n19⟩, -, X19, ⟨Lc19, hQ19, l19, y19, z19⟩, st19⟩ := Jvm.LawKit.callS X16 hx (y := (⟨"com/example/bipartite_map/bipartitemap/order/AnchorOrders", "numberOrder", "(I)[I"⟩ : MethodName)) hown (mvT hZ (hw _ (List.mem_of_getElem? (i := 0) rfl))) (mvT hZ (hw _ (List.mem_of_getElem? (i := 1) rfl))) (mvT hZ (hw _ (List.mem_of_getElem? (i := 2) rfl))) (mvT hZ (hw _ (List.mem_of_getElem? (i := 3) rfl))) (by decide) (backOf (W := 0) (rm1 l Z a0 hw [] (p1 &&& (255 : Int32)) n h16 n0 Z17 hn hn255) hZ (hw _ (List.mem_of_getElem? (i := 3) rfl)) (hw _ (List.mem_of_getElem? (i := 2) rfl)) (by decide) (by decide)) (g := (mkF m 53 #[.val (.int p1), .val (.int p2), .val (.int (p1 &&& (255 : Int32))), .val (.ref b10), .val (.int (v_rm0_0 p2 p1)), .unset] [(.int (p1 &&& (255 : Int32)))])) rfl (by rw [hml]; rfl) (argsL := [(.int (p1 &&& (255 : Int32)))]) (rest := []) (lenOf pd_1 rfl) rfl (by show 2 * 0 + _ ≤ _; exact Nat.le_of_eq rfl) (hb hby at_53) (fun _ _ => ⟨rfl, e16, (by decide : 0 + 1 + 1 ≤ _), (by decide : 0 + 255 + 255 ≤ _)⟩)
    dsimp only [Pt.U, Pt.locs, Pt.cells, Pt.slots] at X19 l19 y19 z19 st19 hQ19
    subst l19 y19 z19
    obtain ⟨b19, rfl, Nq19, geq19, szq19, Kq19, Aq19⟩ := hQ19
    have N20 := Fr.app N18 Nq19
    have A21 := A16.keep Kq19 nin0
    have ne_b10_b19 : b10 ≠ b19 := Nat.ne_of_lt (Nat.lt_of_lt_of_le A16.lt szq19)
    have Z22 : n0 ≤ T19.heap.size := Nat.le_trans Z17 Kq19.1
    refine go _ (T19.setTop (mkF m 56 #[.val (.int p1), .val (.int p2), .val (.int (p1 &&& (255 : Int32))), .val (.ref b10), .val (.int (v_rm0_0 p2 p1)), .unset] [(.ref b19)])) (st19) ?_
    refine go _ (T19.setTop (mkF m 58 #[.val (.int p1), .val (.int p2), .val (.int (p1 &&& (255 : Int32))), .val (.ref b10), .val (.int (v_rm0_0 p2 p1)), .val (.ref b19)] [])) (fun t k => XS.astore X19.here hx rfl (hb hby at_56) rfl rfl (l' := #[.val (.int p1), .val (.int p2), .val (.int (p1 &&& (255 : Int32))), .val (.ref b10), .val (.int (v_rm0_0 p2 p1)), .val (.ref b19)]) rfl k) ?_
    refine go _ (T19.setTop (mkF m 60 #[.val (.int p1), .val (.int p2), .val (.int (p1 &&& (255 : Int32))), .val (.ref b10), .val (.int (v_rm0_0 p2 p1)), .val (.ref b19)] [(.ref b19)])) (fun t k => XS.aload X19.here hx rfl (hb hby at_58) rfl rfl k) ?_
    refine go _ (T19.setTop (mkF m 61 #[.val (.int p1), .val (.int p2), .val (.int (p1 &&& (255 : Int32))), .val (.ref b10), .val (.int (v_rm0_0 p2 p1)), .val (.ref b19)] [(.int (Int32.ofNat n))])) (own_len X19 hx hZ rfl Aq19 (g := (mkF m 60 #[.val (.int p1), .val (.int p2), .val (.int (p1 &&& (255 : Int32))), .val (.ref b10), .val (.int (v_rm0_0 p2 p1)), .val (.ref b19)] [(.ref b19)])) rfl rfl (hb hby at_60)) ?_
    refine go _ (T19.setTop (mkF m 62 #[.val (.int p1), .val (.int p2), .val (.int (p1 &&& (255 : Int32))), .val (.ref b10), .val (.int (v_rm0_0 p2 p1)), .val (.ref b19)] [(.int (p1 &&& (255 : Int32))), (.int (Int32.ofNat n))])) (fun t k => XS.iloadN X19.here hx rfl (hb hby at_61) rfl k) ?_
    have hc23 : ((Int32.ofNat n) = (p1 &&& (255 : Int32))) := own_lenq hn hn255
    refine go _ (T19.setTop (mkF m 65 #[.val (.int p1), .val (.int p2), .val (.int (p1 &&& (255 : Int32))), .val (.ref b10), .val (.int (v_rm0_0 p2 p1)), .val (.ref b19)] [])) (fun t k => XS.icmpNo X19.here hx rfl (hb hby at_62) rfl (teq hc23).2 k) ?_
    refine go _ (T19.setTop (mkF m 67 #[.val (.int p1), .val (.int p2), .val (.int (p1 &&& (255 : Int32))), .val (.ref b10), .val (.int (v_rm0_0 p2 p1)), .val (.ref b19)] [(.ref b19)])) (fun t k => XS.aload X19.here hx rfl (hb hby at_65) rfl rfl k) ?_
    refine go _ (T19.setTop (mkF m 69 #[.val (.int p1), .val (.int p2), .val (.int (p1 &&& (255 : Int32))), .val (.ref b10), .val (.int (v_rm0_0 p2 p1)), .val (.ref b19)] [(.int (v_rm0_0 p2 p1)), (.ref b19)])) (fun t k => XS.iload X19.here hx rfl (hb hby at_67) rfl k) ?_
    refine go _ (T19.setTop (mkF m 70 #[.val (.int p1), .val (.int p2), .val (.int (p1 &&& (255 : Int32))), .val (.ref b10), .val (.int (v_rm0_0 p2 p1)), .val (.ref b19)] [(.int (Int32.ofNat i))])) (own_ldI X19 hx hZ rfl Aq19 (i := i) hj hi (g := (mkF m 69 #[.val (.int p1), .val (.int p2), .val (.int (p1 &&& (255 : Int32))), .val (.ref b10), .val (.int (v_rm0_0 p2 p1)), .val (.ref b19)] [(.int (v_rm0_0 p2 p1)), (.ref b19)])) rfl rfl (hb hby at_69) (v := (.int (Int32.ofNat i))) rfl) ?_
    refine go _ (T19.setTop (mkF m 72 #[.val (.int p1), .val (.int p2), .val (.int (p1 &&& (255 : Int32))), .val (.ref b10), .val (.int (v_rm0_0 p2 p1)), .val (.ref b19)] [(.int (v_rm0_0 p2 p1)), (.int (Int32.ofNat i))])) (fun t k => XS.iload X19.here hx rfl (hb hby at_70) rfl k) ?_
    have hc24 : ((Int32.ofNat i) = (v_rm0_0 p2 p1)) := own_ofn hj
    refine go _ (T19.setTop (mkF m 75 #[.val (.int p1), .val (.int p2), .val (.int (p1 &&& (255 : Int32))), .val (.ref b10), .val (.int (v_rm0_0 p2 p1)), .val (.ref b19)] [])) (fun t k => XS.icmpNo X19.here hx rfl (hb hby at_72) rfl (teq hc24).2 k) ?_
    refine go _ (T19.setTop (mkF m 76 #[.val (.int p1), .val (.int p2), .val (.int (p1 &&& (255 : Int32))), .val (.ref b10), .val (.int (v_rm0_0 p2 p1)), .val (.ref b19)] [(.int (1 : Int32))])) (fun t k => XS.iconst X19.here hx rfl (hb hby at_75) k) ?_
    refine go _ (T19.setTop (mkF m 80 #[.val (.int p1), .val (.int p2), .val (.int (p1 &&& (255 : Int32))), .val (.ref b10), .val (.int (v_rm0_0 p2 p1)), .val (.ref b19)] [(.int (1 : Int32))])) (fun t k => XS.goto X19.here hx rfl (pc0 := 76) (pc' := 80) rfl (hb hby at_76) (by decide) (by decide) k) ?_
    exact fin (some (.int (1 : Int32))) X19 (by decide) (by decide) (fun q => by cases q) (show Q_rm0 Z p1 p2 h0 n0 _ T19.heap _ from ⟨rfl, N20⟩) (fun fs hr => retN X19 hx (t := .boolean) hret (by simp) (hb hby at_80) hr)
set_option maxRecDepth 65536 in
set_option maxHeartbeats 40000000 in
theorem comes_1 {Post : Tables → Env → Array Value → State → Outcome → State → Prop} (hpost : ∀ tb e args s v u, (limb_1_1.after args s (.returned v) u = true ∧ limb_1_2.after args s (.returned v) u = true ∧ True) → FrameEnd s (.returned v) u (Jvm.fieldLocs frame_1_writes args s ++ Jvm.arrayLocs frame_1_arrays args s ++ Jvm.staticLocs frame_1_statics s) 16 1088 → Post tb e args s (.returned v) u) :
    ArmFor flags0 classFile x code maxLocals ret World_1 tables_1 room_1 Calls_1 rest_1 Pre_1 Post := by
  intro l hfl _ _ p e ha hc hk s m args below hf hA hF happ hP
  obtain ⟨hcalls, hrest, hpre⟩ := hP
  obtain ⟨-, -, -, hnamed, -, -, -, hat⟩ := (Spec.applies_iff hf).mp happ
  obtain ⟨hg, hn⟩ := and_e (Cond.before_iff.mp (show (Jvm.Cond.and given_1 narrow_1).before args s = true from hpre))
  obtain ⟨gc, g1⟩ := and_e hg
  obtain ⟨ga0, g2⟩ := and_e g1
  have ga1 := g2
  obtain ⟨w0, w1, rfl⟩ : ∃ w0 w1 : Value, args = #[w0, w1] := by
    have hs : args.size = 2 := by simpa [Cond.value, given_1] using gc
    obtain ⟨L⟩ := args
    match L, hs with
    | [w0, w1], _ => exact ⟨w0, w1, rfl⟩
  have hw := fun d (hd : d ∈ tables_1) => atoms_spec (ws := Jvm.Cond.code x code maxLocals ret :: tables_1) hat d (List.mem_cons_of_mem _ hd)
  obtain ⟨i0, ei0⟩ := is_v ga0
  obtain rfl : w0 = (.int i0) := Option.some.inj ei0
  obtain ⟨i1, ei1⟩ := is_v ga1
  obtain rfl : w1 = (.int i1) := Option.some.inj ei1
  obtain ⟨n, o, h1, h2, h3, _, L, rfl, ⟨rfl, N⟩, hq⟩ := rm0 l s _ hw tables_1 i0 i1 s.heap s.heap.size (Nat.le_refl _) p e ha hc hk s m _ below hf ((Spec.applies_iff_loose hf).mp happ).1 ⟨rfl, State.Warmed39.refl s, rfl⟩ trivial
  refine ⟨n, _, h1, h2, h3, hpost _ _ _ _ _ _ ⟨Cond.after_iff.mpr rfl, Cond.after_iff.mpr (eq_i res_at (Term.int_eval (1)) rfl), trivial⟩ ⟨hq.1, hq.2.1, (hq.2.2.sift fun y hy => Or.inr (N y hy)).mono (by decide) (by decide)⟩⟩
theorem main_1_1 : Claimed_1_1 := comes_1 fun _ _ _ _ _ _ h hF => ⟨h.1, hF⟩
theorem main_1_2 : Claimed_1_2 := comes_1 fun _ _ _ _ _ _ h hF => ⟨h.2.1, hF⟩
end Jvm.Pilot.@@N@@
namespace Jvm.Pilot.@@N@@
open Jvm Jvm.ClassFile Sem Op Lib Jvm.Free Jvm.Stand Jvm.Pilot.@@N@@.Jvm.D
/-! MADE BY PROGRAM (witnessworld.py) out of the Statement's table words and the real class files: 9 classes; the members and pool entries that the words name. The judged class is class 1, her method 1. -/
namespace start1
open Jvm.ClassFile
def u (s : String) : CpInfo := .utf8 (stringToUtf16 s)
/-- a pool by its gaps: so many unusable entries, then the entry; so many at the end -/
def gap : Nat → List CpInfo → List CpInfo
  | 0, r => r
  | n + 1, r => .unusable :: gap n r
def poolList (es : List (Nat × CpInfo)) (last : Nat) : List CpInfo := es.foldr (fun e r => gap e.1 (e.2 :: r)) (gap last [])
def pool (es : List (Nat × CpInfo)) (last : Nat) : Array CpInfo := ⟨poolList es last⟩
def fileOf (pool : Array CpInfo) (this : Nat) (attrs : Array Attribute := #[]) (ms : Array MethodInfo := #[]) (fl : Nat := 33) (sup : Nat := 0) (ifs : Array Nat := #[]) (fds : Array FieldInfo := #[]) : ClassFile where
  minorVersion := 0
  majorVersion := 65
  constantPool := pool
  accessFlags := fl
  thisClass := this
  superClass := sup
  interfaces := ifs
  fields := fds
  methods := ms
  attributes := attrs
def plain (name : String) (sup : Option ClassId) : Class where
  name := name
  kind := .ordinary
  loader := none
  accessFlags := 33
  super := sup
  interfaces := #[]
  cf := none
  fields := #[]
  methods := #[]
  instanceTypes := #[]
  staticTypes := #[]
  resolved := #[]
  callSites := []
  init := .initialized
  statics := none
  mirror := none

def pool0 : Array CpInfo := pool [(5, u "<init>"), (0, u "()V"), (1, .class_ 10), (1, u "java/lang/Object")] 113

def k0m0 : Method := { name := "<init>", desc := "()V", sig := { parameters := [], returnType := none }, accessFlags := 1, code := none }
/-- java/lang/Object -/
def k0 : Class := { plain "java/lang/Object" none with
  accessFlags := 33
  interfaces := #[]
  cf := some (fileOf pool0 8 #[] #[{ accessFlags := 1, nameIndex := 5, descriptorIndex := 6, attributes := #[] }] 33 0 #[] #[])
  fields := #[]
  methods := #[k0m0]
  instanceTypes := #[]
  staticTypes := #[]
  resolved := Array.replicate 124 none
  statics := none }

def pool1 : Array CpInfo := pool [(2, .class_ 4), (1, u "java/lang/Object"), (0, u "<init>"), (0, u "()V"), (0, .methodref 8 9), (0, .class_ 10), (0, .nameAndType 11 12), (0, u "com/example/bipartite_map/bipartitemap/order/AnchorOrders"), (0, u "numberOrder"), (0, u "(I)[I"), (0, .integer 2147483647), (0, .class_ 15), (0, u "com/example/bipartite_map/bipartitemap/order/AnchorOrdersNumberOrderPinLaw"), (2, u "law"), (0, u "(II)Z")] 5

def k1m0 : Method := { name := "<init>", desc := "()V", sig := { parameters := [], returnType := none }, accessFlags := 2, code := none }
def k1c1 : Code := { maxStack := 4, maxLocals := 6, code := code, exceptionTable := #[], attributes := #[] }
def k1m1 : Method := { name := "law", desc := "(II)Z", sig := { parameters := [.int, .int], returnType := some .boolean }, accessFlags := 9, code := some k1c1 }
/-- com/example/bipartite_map/bipartitemap/order/AnchorOrdersNumberOrderPinLaw -/
def k1 : Class := { plain "com/example/bipartite_map/bipartitemap/order/AnchorOrdersNumberOrderPinLaw" (some 0) with
  accessFlags := 49
  interfaces := #[]
  cf := some (fileOf pool1 14 #[] #[{ accessFlags := 2, nameIndex := 5, descriptorIndex := 6, attributes := #[] }, { accessFlags := 9, nameIndex := 18, descriptorIndex := 19, attributes := #[] }] 49 2 #[] #[])
  fields := #[]
  methods := #[k1m0, k1m1]
  instanceTypes := #[]
  staticTypes := #[]
  resolved := Array.replicate 25 none
  statics := none }

def pool2 : Array CpInfo := pool [(2, .class_ 4), (1, u "java/lang/Object"), (0, u "<init>"), (0, u "()V"), (3, .class_ 12), (1, u "com/example/bipartite_map/bipartitemap/order/AnchorOrders"), (7, u "numberOrder"), (0, u "(I)[I")] 61

def k2m0 : Method := { name := "<init>", desc := "()V", sig := { parameters := [], returnType := none }, accessFlags := 2, code := none }
def k2c1 : Code := { maxStack := 3, maxLocals := 3, code := prog_62_method_2_code, exceptionTable := #[], attributes := #[] }
def k2m1 : Method := { name := "numberOrder", desc := "(I)[I", sig := { parameters := [.int], returnType := some (.array .int) }, accessFlags := 9, code := some k2c1 }
/-- com/example/bipartite_map/bipartitemap/order/AnchorOrders -/
def k2 : Class := { plain "com/example/bipartite_map/bipartitemap/order/AnchorOrders" (some 0) with
  accessFlags := 33
  interfaces := #[]
  cf := some (fileOf pool2 10 #[] #[{ accessFlags := 2, nameIndex := 5, descriptorIndex := 6, attributes := #[] }, { accessFlags := 9, nameIndex := 20, descriptorIndex := 21, attributes := #[] }] 33 2 #[] #[])
  fields := #[]
  methods := #[k2m0, k2m1]
  instanceTypes := #[]
  staticTypes := #[]
  resolved := Array.replicate 83 none
  statics := none }

def pool3 : Array CpInfo := pool [(1, u "java/lang/Cloneable"), (0, .class_ 1), (0, u "java/lang/Object"), (0, .class_ 3)] 3

/-- java/lang/Cloneable -/
def k3 : Class := { plain "java/lang/Cloneable" (some 0) with
  accessFlags := 1537
  interfaces := #[]
  cf := some (fileOf pool3 2 #[] #[] 1537 4 #[] #[])
  fields := #[]
  methods := #[]
  instanceTypes := #[]
  staticTypes := #[]
  resolved := Array.replicate 8 none
  statics := none }

def pool4 : Array CpInfo := pool [(1, u "java/io/Serializable"), (0, .class_ 1), (0, u "java/lang/Object"), (0, .class_ 3)] 3

/-- java/io/Serializable -/
def k4 : Class := { plain "java/io/Serializable" (some 0) with
  accessFlags := 1537
  interfaces := #[]
  cf := some (fileOf pool4 2 #[] #[] 1537 4 #[] #[])
  fields := #[]
  methods := #[]
  instanceTypes := #[]
  staticTypes := #[]
  resolved := Array.replicate 8 none
  statics := none }

/-- the primitive byte -/
def k5 : Class := { plain "byte" none with kind := .primitive 'B', accessFlags := 0x411 }
/-- [B -/
def k6 : Class := { plain "[B" (some 0) with kind := .array 5 .byte, interfaces := #[3, 4], accessFlags := 1041 }

/-- the primitive int -/
def k7 : Class := { plain "int" none with kind := .primitive 'I', accessFlags := 0x411 }
/-- [I -/
def k8 : Class := { plain "[I" (some 0) with kind := .array 7 .int, interfaces := #[3, 4], accessFlags := 1041 }

def heap : Heap := #[]
def classes : Array Class := #[k0, k1, k2, k3, k4, k5, k6, k7, k8]
def interned : List (Array UInt16 × Addr) := []
def slotsUsed : Nat := 0
def theMethod : MethodId := ⟨1, 1⟩
def args0 : Array Value := #[.int 5, .int 61]
def aboutOver (below : List Frame) : State where
  vm := { classes := classes, interned := interned.toArray }
  heap := heap
  slotsUsed := slotsUsed
  threads := #[{ frames := .invoking theMethod args0 :: below }]
def below0 : List Frame := [.native { method := ⟨0, 0⟩, args := #[] }]
def about1 : State := aboutOver below0
def p0 : Program := .bare "" "" ""
def e0 : Env := launch0.env 0 0 0
theorem w_frames : about1.frames = Frame.invoking theMethod args0 :: below0 := rfl
set_option maxRecDepth 65536 in
theorem w_args : argsFit about1.vm theMethod args0 = true := by decide +kernel
set_option maxRecDepth 65536 in
theorem w_heap : heapFits about1 = true := by decide +kernel
set_option maxRecDepth 65536 in
theorem w_runnable : about1.curStatus? = some .runnable := by decide +kernel
set_option maxRecDepth 65536 in
theorem w_alone : about1.alone = true := by decide +kernel
set_option maxRecDepth 65536 in
theorem w_named : about1.methodNamed? x = some theMethod := by decide +kernel
set_option maxRecDepth 65536 in
theorem w_hears : about1.hears theMethod below0 = true := by decide +kernel
set_option maxRecDepth 65536 in
theorem w_ripe : about1.ripe theMethod args0 below0 = true := by decide +kernel
theorem w_running : about1.status = .running := rfl
set_option maxRecDepth 65536 in
theorem w_room : about1.hasRoom e0.platform room_1 = true :=
  launch0.hasRoom_least _ room_1 (by decide +kernel) (by decide +kernel) (by decide +kernel) (by decide +kernel) (by decide +kernel) (by decide +kernel)
theorem allAtoms_all (ts : List Jvm.Cond) (a : Array Jvm.Value) (st : Jvm.State) : (allAtoms ts).before a st = ts.all (fun c => c.before a st) := by
  induction ts with
  | nil => rfl
  | cons c t ih =>
    show (Jvm.Cond.and c (allAtoms t)).before a st = _
    rw [Jvm.Cond.before_and, ih, List.all_cons]
def words1 : List Jvm.Cond := Jvm.Cond.code x code maxLocals ret :: tables_1
/-- a 'code' word, met by the world's own term for the bytes: nothing is compared byte by byte -/
theorem code_word {y : MethodName} {bytes : ByteArray} {mx : Nat} {rt : Option FieldType} {a : Array Value} {s : State} {m : MethodId} {meth : Method} {c : Code} (h1 : s.methodNamed? y = some m) (h2 : s.vm.method? m = some meth) (h3 : meth.code = some c) (h4 : c.code = bytes)
    (h5 : (c.maxLocals == mx && c.exceptionTable.isEmpty && decide (c.maxStack ≤ mostOperands) && decide (meth.sig.returnType = rt) && !meth.locks && decide (parseMethodDescriptor y.desc = some meth.sig)) = true) : (Jvm.Cond.code y bytes mx rt).before a s = true := by
  simp only [Bool.and_eq_true, beq_iff_eq, Bool.not_eq_true', decide_eq_true_eq] at h5
  obtain ⟨⟨⟨⟨⟨g1, g2⟩, g3⟩, g4⟩, g5⟩, g6⟩ := h5
  simp [Cond.before, Cond.holds, Cond.value, h1, h2, h3, h4, g1, g2, g3, g4, g5, g6]
def isCode : Jvm.Cond → Bool
  | .code _ _ _ _ => true
  | _ => false
theorem all_split {L : List Jvm.Cond} {P : Jvm.Cond → Bool} (h1 : L.all (fun c => isCode c || P c) = true) (h2 : ∀ c ∈ L.filter isCode, P c = true) : L.all P = true := by
  refine List.all_eq_true.mpr fun c hc => ?_
  have h := List.all_eq_true.mp h1 c hc
  rcases Bool.eq_false_or_eq_true (isCode c) with hi | hi
  · exact h2 c (List.mem_filter.mpr ⟨hc, hi⟩)
  · simpa [hi] using h
set_option maxRecDepth 65536 in
theorem w_c0 : (Jvm.Cond.code x code maxLocals ret).before args0 about1 = true := code_word (m := ⟨1, 1⟩) (meth := k1m1) (c := k1c1) (by decide +kernel) rfl rfl rfl (by decide +kernel)
set_option maxRecDepth 65536 in
theorem w_c1 : (Jvm.Cond.code ({ cls := "com/example/bipartite_map/bipartitemap/order/AnchorOrders", name := "numberOrder", desc := "(I)[I" } : Jvm.MethodName) prog_62_method_2_code (3 : Nat) (Option.some (Jvm.ClassFile.FieldType.array Jvm.ClassFile.FieldType.int))).before args0 about1 = true := code_word (m := ⟨2, 1⟩) (meth := k2m1) (c := k2c1) (by decide +kernel) rfl rfl rfl (by decide +kernel)
def codes1 : List Jvm.Cond := [Jvm.Cond.code x code maxLocals ret, Jvm.Cond.code ({ cls := "com/example/bipartite_map/bipartitemap/order/AnchorOrders", name := "numberOrder", desc := "(I)[I" } : Jvm.MethodName) prog_62_method_2_code (3 : Nat) (Option.some (Jvm.ClassFile.FieldType.array Jvm.ClassFile.FieldType.int))]
set_option maxRecDepth 65536 in
theorem codes_eq : words1.filter isCode = codes1 := rfl
theorem w_codes : ∀ c ∈ words1.filter isCode, c.before args0 about1 = true := by
  rw [codes_eq]
  intro c hc
  simp only [codes1, List.mem_cons, List.not_mem_nil, or_false] at hc
  rcases hc with rfl | rfl
  · exact w_c0
  · exact w_c1
set_option maxRecDepth 65536 in
theorem w_t1 : words1.all (fun c => isCode c || c.before args0 about1) = true := by decide +kernel
theorem w_tables : (allAtoms (Jvm.Cond.code x code maxLocals ret :: tables_1)).before args0 about1 = true := by
  rw [allAtoms_all]
  show words1.all (fun c => c.before args0 about1) = true
  refine all_split ?_ w_codes
  rw [w_t1]
set_option maxRecDepth 65536 in
theorem w_case : (Jvm.Cond.and given_1 narrow_1).before args0 about1 = true := by decide +kernel
theorem w_applies : (headSpec (Jvm.Cond.code x code maxLocals ret :: tables_1) room_1).applies x e0.platform about1 = true :=
  (Spec.applies_iff w_frames).mpr ⟨w_running, w_runnable, w_alone, w_named, w_hears, w_ripe, w_room, w_tables⟩
theorem atStart : AtStart classFile x code maxLocals ret World_1 tables_1 room_1 Calls_1 rest_1 Pre_1 launch0 p0 e0 about1 theMethod args0 below0 :=
  ⟨lists_1, trivial, launch0.admits_env _ _ _, launch0.least_env, fairChoices_fair.cas, fairChoices_fair.clock, w_frames, w_args, w_heap, w_applies, trivial, trivial, w_case⟩
end start1
theorem witness_1 : WitnessClaimed_1 := ⟨start1.p0, start1.e0, start1.about1, start1.theMethod, start1.args0, start1.below0, start1.atStart⟩
end Jvm.Pilot.@@N@@
