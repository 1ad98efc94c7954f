import JvmDerived
import JvmDerived.Pilot.@@N@@Statement
import JvmDerived.Pilot.@@N@@Code
set_option linter.unusedVariables false
set_option linter.unusedSimpArgs false
namespace Jvm.RoadKit
open Sem ClassFile Op Lib Jvm.Stand Jvm.Free Jvm.LawKit
section New
variable {p : Program} {l : Launch} {e : Env} {R : Room} {s : State} {m : MethodId} {args : Array Value} {below : List Frame} {meth : Method} {c : Code} {T : State} {locs : List Loc} {cells slots : Nat}
theorem retI (X : Stand p l e R s m args below meth c T locs cells slots) (hx : p.tables.exec = Jvm.exec) {pc : Nat} {Ls : Array Slot} {z : Int32} {rest : List Value} (hret : meth.sig.returnType = some .int) (hd : decode c.code pc = .ok (.ireturn, 1)) {fs : List Frame}
    (hl : ∀ (f : JFrame) (acts : List Action), f.method = m → f.locked = none → f.entered = [] → (doReturn e (T.setTop f) acts (some (.int z))).1 = T.setFrames fs) : Steps p.tables e below (T.setTop (mkF m pc Ls (.int z :: rest))) (T.setFrames fs) := by
  have hm' : T.vm.method? m = some meth := X.method'
  have hn : narrow .int (.int z) = .int z := rfl
  show Steps p.tables e below (T.setTop { method := m, pc := pc, locals := Ls, stack := _ :: rest, locked := none }) _
  jvm_step X.here [X.here.top, hx, hd, hm', hret, hn]
  first | (intro acts; rw [hl _ acts rfl rfl rfl]) | rw [hl _ _ rfl rfl rfl]
  exact Steps.refl _
theorem retJ (X : Stand p l e R s m args below meth c T locs cells slots) (hx : p.tables.exec = Jvm.exec) {pc : Nat} {Ls : Array Slot} {z : Int64} {rest : List Value} (hret : meth.sig.returnType = some .long) (hd : decode c.code pc = .ok (.lreturn, 1)) {fs : List Frame}
    (hl : ∀ (f : JFrame) (acts : List Action), f.method = m → f.locked = none → f.entered = [] → (doReturn e (T.setTop f) acts (some (.long z))).1 = T.setFrames fs) : Steps p.tables e below (T.setTop (mkF m pc Ls (.long z :: rest))) (T.setFrames fs) :=
  retOut X hx hret rfl (Or.inr (Or.inl ⟨rfl, rfl, z, rfl⟩)) hd hl
theorem retA (X : Stand p l e R s m args below meth c T locs cells slots) (hx : p.tables.exec = Jvm.exec) {pc : Nat} {Ls : Array Slot} {a : Addr} {t : FieldType} {rest : List Value} (hret : meth.sig.returnType = some t) (ht : t.isReference = true) (hd : decode c.code pc = .ok (.areturn, 1)) {fs : List Frame}
    (hl : ∀ (f : JFrame) (acts : List Action), f.method = m → f.locked = none → f.entered = [] → (doReturn e (T.setTop f) acts (some (.ref a))).1 = T.setFrames fs) : Steps p.tables e below (T.setTop (mkF m pc Ls (.ref a :: rest))) (T.setFrames fs) :=
  retOut X hx hret (by cases t <;> first | rfl | (simp [FieldType.isReference] at ht)) (Or.inr (Or.inr (Or.inr (Or.inr ⟨rfl, ht, rfl⟩)))) hd hl
end New
end Jvm.RoadKit
namespace Jvm.Pilot.@@N@@
open Jvm Jvm.ClassFile Sem Op Lib Jvm.Free Jvm.Stand Jvm.LawKit Jvm.RoadKit Bundle Jvm.Pilot.@@N@@.Jvm.D
section OwnKit
variable {p : Program} {l : Launch} {e : Env} {R : Room} {s : State} {m : MethodId} {args : Array Value} {below : List Frame} {meth : Method} {c : Code} {T : State} {locs : List Loc} {cells slots : Nat} {Z : State} {h h' : Heap}
/-- one body's contract, with the walk's goal as a closed predicate K: 'go' takes a step, 'fin' leaves the method -/
theorem own_body {y : MethodName} {bytes : ByteArray} {maxL : Nat} {ret : Option FieldType} {ws : List Jvm.Cond} {rm : Room} {h0 : Heap} {Q : Option Value → Heap → List Loc → Prop} (hp : plainFor y = true)
    (body : ∀ (p : Program) (e : Env) (s : State) (m : MethodId) (below : List Frame) (meth : Method) (c : Code) (s₁ : State) (K : State → Prop),
      (∀ U U', (∀ t, Steps p.tables e below U' t → Steps p.tables e below U t) → K U' → K U) →
      (∀ {T : State} {locs : List Loc} {cells slots : Nat} {g : JFrame} (v : Option Value), Stand p l e rm s m args below meth c T locs cells slots → cells ≤ rm.cells → slots ≤ rm.slots → (ret = none → v = none) → Q v T.heap locs →
        (∀ fs, (∀ (f : JFrame) (acts : List Action), f.method = m → f.locked = none → f.entered = [] → (doReturn e (T.setTop f) acts v).1 = T.setFrames fs) → Steps p.tables e below (T.setTop g) (T.setFrames fs)) → K (T.setTop g)) →
      Stand p l e rm s m args below meth c s₁ [] 0 0 → p.tables.exec = Jvm.exec → c.code = bytes → c.maxLocals = maxL → s.vm.findClass y.cls = some m.cls → meth.name = y.name → meth.sig.returnType = ret → Z.Warmed39 s.vm → s₁.heap = h0 → K (s₁.setTop (entryFrame m args maxL))) :
    MetFree l y (head1 (Jvm.Cond.code y bytes maxL ret :: ws) rm) (fun a U => a = args ∧ Z.Warmed39 U.vm ∧ U.heap = h0) (fun _ _ _ _ _ => True) (fun _ U o U' => ∃ v L, o = .returned v ∧ Q v U'.heap L ∧ FrameEnd U o U' L rm.cells rm.slots) := by
  refine MetFree.of_bodySF hp hisR ?_
  intro p e s m args' below meth c s₁ Bd hml hP hK
  obtain ⟨rfl, hZ, hh⟩ := hP
  refine body p e s m below meth c s₁ (fun U => ∃ s₂ o, Steps p.tables e below U s₂ ∧ s₂.status = .running ∧ Ended s₂ below o ∧ ∃ v L, o = .returned v ∧ Q v s₂.heap L ∧ FrameEnd s o s₂ L rm.cells rm.slots) ?_ ?_ (Stand.of_body Bd) Bd.exec Bd.bytes hml (findClass_of_methodNamed Bd.named) (name_of_methodNamed Bd.named Bd.method).1 Bd.returns hZ (by rw [← hh, Bd.state]; rfl)
  · rintro U U' st ⟨s₂, o, h1, h2⟩
    exact ⟨s₂, o, st _ h1, h2⟩
  · intro T locs cells slots g v X hc hs hv hQ hst
    obtain ⟨fs, hr, hrun, hended, hW, hsame⟩ := X.leave (v := v) (fun q => hv (Bd.returns ▸ q))
    exact ⟨_, _, hst fs hr, hrun, hended, v, locs, rfl, hQ, ⟨_, rfl⟩, hW, hsame.mono hc hs⟩
/-! Java's shifts and the narrowing to a byte -/
def jushr (x y : Int32) : Int32 := (x.toUInt32 >>> (y &&& 31).toUInt32).toInt32
def jshl (x y : Int32) : Int32 := x <<< (y &&& 31)
def jshr (x y : Int32) : Int32 := x >>> (y &&& 31)
def jushrL (x : Int64) (y : Int32) : Int64 := (x.toUInt64 >>> (y &&& 0x3f).toInt64.toUInt64).toInt64
def jshlL (x : Int64) (y : Int32) : Int64 := x <<< (y &&& 0x3f).toInt64
def jshrL (x : Int64) (y : Int32) : Int64 := x >>> (y &&& 0x3f).toInt64
def jb (x : Int32) : Int32 := x.toInt8.toInt32
theorem own_lrem {g : JFrame} {target : State} (X : Stand p l e R s m args below meth c T locs cells slots) (hx : p.tables.exec = Jvm.exec) (hg : g.method = m) {x y : Int64} {rest : List Value} (hd : decode c.code g.pc = .ok (.lrem, 1)) (hs : g.stack = .long y :: .long x :: rest) (hy : y ≠ 0)
    (hr : Steps p.tables e below (T.setTop { g with pc := g.pc + 1, stack := .long (x % y) :: rest }) target) : Steps p.tables e below (T.setTop g) target :=
  XS.lrem X.here hx hg hd hs hy (by rw [lrem_mod]; exact hr)
theorem own_narb (x : Int32) : nar .byte (jb x) = jb x := by simp [nar, jb]
/-! an array by its length and what its places hold -/
def own_upd (f : Nat → Value) (i : Nat) (v : Value) : Nat → Value := fun j => if j = i then v else f j
theorem own_hit (f : Nat → Value) (i : Nat) (v : Value) : own_upd f i v i = v := if_pos rfl
theorem own_miss {f : Nat → Value} {i j : Nat} {v : Value} (q : j ≠ i) : own_upd f i v j = f j := if_neg q
def AF (Z : State) (h : Heap) (a : Addr) (ty : FieldType) (n : Nat) (f : Nat → Value) : Prop := n < 2 ^ 31 ∧ ∃ c : Cell, Arr Z h a c ty ∧ c.slots.size = n ∧ ∀ j, j < n → c.slots[j]? = some (f j)
theorem AF.lt {a : Addr} {ty : FieldType} {n : Nat} {f : Nat → Value} (A : AF Z h a ty n f) : a < h.size := by obtain ⟨-, c, A, -⟩ := A; exact A.lt
theorem AF.ext {a : Addr} {ty : FieldType} {n : Nat} {f : Nat → Value} (A : AF Z h a ty n f) (E : Ext h h') : AF Z h' a ty n f := by obtain ⟨q, c, A, r⟩ := A; exact ⟨q, c, A.ext E, r⟩
theorem AF.other {a b : Addr} {sl : Nat} {v : Value} {ty : FieldType} {n : Nat} {f : Nat → Value} (A : AF Z h b ty n f) (W : Wr h h' a sl v) (q : b ≠ a) : AF Z h' b ty n f := by obtain ⟨q1, c, A, r⟩ := A; exact ⟨q1, c, A.other W q, r⟩
theorem AF.keep {a : Addr} {ws : List Addr} {ty : FieldType} {n : Nat} {f : Nat → Value} (A : AF Z h a ty n f) (K : Keep h h' ws) (q : a ∉ ws) : AF Z h' a ty n f := by obtain ⟨q1, c, A, r⟩ := A; exact ⟨q1, c, ⟨K.2.1 a c A.1 q, A.2⟩, r⟩
theorem AF.congr {a : Addr} {ty : FieldType} {n : Nat} {f f' : Nat → Value} (A : AF Z h a ty n f) (q : ∀ j, j < n → f j = f' j) : AF Z h a ty n f' := by obtain ⟨q1, c, A, S, r⟩ := A; exact ⟨q1, c, A, S, fun j hj => by rw [← q j hj]; exact r j hj⟩
theorem AF.len {a : Addr} {ty : FieldType} {n : Nat} {f : Nat → Value} (A : AF Z h a ty n f) : n < 2 ^ 31 := A.1
theorem own_idx {j : Int32} {i : Nat} (hj : j.toInt = (i : Int)) : j.toNatClampNeg = i := by simp only [Int32.toNatClampNeg, hj]; omega
theorem own_in {j : Int32} {i n : Nat} {c : Cell} (S : c.slots.size = n) (hj : j.toInt = (i : Int)) (hi : i < n) : ¬ (j < 0 ∨ c.slots.size ≤ j.toNatClampNeg) := by
  rw [own_idx hj, S, Int32.lt_iff_toInt_lt, hj]
  simp only [Int32.toInt_zero]
  omega
theorem own_set {a : Addr} {ty : FieldType} {n i : Nat} {f : Nat → Value} {cl : Cell} {v : Value} (q1 : n < 2 ^ 31) (A : Arr Z h a cl ty) (S : cl.slots.size = n) (H : ∀ j, j < n → cl.slots[j]? = some (f j)) (W : Wr h h' a i v) (hi : i < n) : AF Z h' a ty n (own_upd f i v) := by
  refine ⟨q1, _, A.same W, by rw [sz_set]; exact S, fun j hj => ?_⟩
  simp only [Cell.setSlot, own_upd]
  by_cases q : j = i
  · subst q; rw [if_pos rfl]; simp [S, hj]
  · rw [if_neg q, Array.getElem?_setIfInBounds_ne (fun z => q z.symm)]; exact H j hj
theorem own_stI (X : Stand p l e R s m args below meth c T locs cells slots) (hx : p.tables.exec = Jvm.exec) (hZ : Z.Warmed39 s.vm) (eT : T.heap = h) {a : Addr} {n i : Nat} {f : Nat → Value} (A : AF Z h a .int n f) {j x : Int32} (hj : j.toInt = (i : Int)) (hi : i < n) {g : JFrame} (hg : g.method = m) {rest : List Value} (hs : g.stack = .int x :: .int j :: .ref a :: rest) (hd : decode c.code g.pc = .ok (.iastore, 1)) :
    ∃ T' h', Stand p l e R s m args below meth c T' (locs ++ [⟨a, i⟩]) cells slots ∧ T'.heap = h' ∧ Wr h h' a i (.int x) ∧ AF Z h' a .int n (own_upd f i (.int x)) ∧ ∀ target, Steps p.tables e below (T'.setTop { g with pc := g.pc + 1, stack := rest }) target → Steps p.tables e below (T.setTop g) target := by
  obtain ⟨q1, cl, Ar, S, H⟩ := A
  obtain ⟨T', h', X', e', W, st⟩ := stI X hx hZ eT Ar (j := j) (own_in S hj hi) hg hs hd
  rw [own_idx hj] at X' W
  exact ⟨T', h', X', e', W, own_set q1 Ar S H W hi, st⟩
theorem own_stJ (X : Stand p l e R s m args below meth c T locs cells slots) (hx : p.tables.exec = Jvm.exec) (hZ : Z.Warmed39 s.vm) (eT : T.heap = h) {a : Addr} {n i : Nat} {f : Nat → Value} (A : AF Z h a .long n f) {j : Int32} {x : Int64} (hj : j.toInt = (i : Int)) (hi : i < n) {g : JFrame} (hg : g.method = m) {rest : List Value} (hs : g.stack = .long x :: .int j :: .ref a :: rest) (hd : decode c.code g.pc = .ok (.lastore, 1)) :
    ∃ T' h', Stand p l e R s m args below meth c T' (locs ++ [⟨a, i⟩]) cells slots ∧ T'.heap = h' ∧ Wr h h' a i (.long x) ∧ AF Z h' a .long n (own_upd f i (.long x)) ∧ ∀ target, Steps p.tables e below (T'.setTop { g with pc := g.pc + 1, stack := rest }) target → Steps p.tables e below (T.setTop g) target := by
  obtain ⟨q1, cl, Ar, S, H⟩ := A
  obtain ⟨T', h', X', e', W, st⟩ := stJ X hx hZ eT Ar (j := j) (own_in S hj hi) hg hs hd
  rw [own_idx hj] at X' W
  exact ⟨T', h', X', e', W, own_set q1 Ar S H W hi, st⟩
theorem own_stB (X : Stand p l e R s m args below meth c T locs cells slots) (hx : p.tables.exec = Jvm.exec) (hZ : Z.Warmed39 s.vm) (eT : T.heap = h) {a : Addr} {n i : Nat} {f : Nat → Value} (A : AF Z h a .byte n f) {j x : Int32} (hj : j.toInt = (i : Int)) (hi : i < n) (hn : nar .byte x = x) {g : JFrame} (hg : g.method = m) {rest : List Value} (hs : g.stack = .int x :: .int j :: .ref a :: rest) (hd : decode c.code g.pc = .ok (.bastore, 1)) :
    ∃ T' h', Stand p l e R s m args below meth c T' (locs ++ [⟨a, i⟩]) cells slots ∧ T'.heap = h' ∧ Wr h h' a i (.int x) ∧ AF Z h' a .byte n (own_upd f i (.int x)) ∧ ∀ target, Steps p.tables e below (T'.setTop { g with pc := g.pc + 1, stack := rest }) target → Steps p.tables e below (T.setTop g) target := by
  obtain ⟨q1, cl, Ar, S, H⟩ := A
  obtain ⟨T', h', X', e', W, st⟩ := stB X hx hZ eT Ar (j := j) (own_in S hj hi) hg hs hd
  rw [own_idx hj] at X' W
  rw [hn] at W
  exact ⟨T', h', X', e', W, own_set q1 Ar S H W hi, st⟩
theorem own_new (X : Stand p l e R s m args below meth c T locs cells slots) (hx : p.tables.exec = Jvm.exec) (hZ : Z.Warmed39 s.vm) {a0 : Array Value} {aty : ArrayType} (w : (Cond.arrayClass (newarray.typeOf aty)).before a0 Z = true) (eT : T.heap = h) {g : JFrame} (hg : g.method = m) (hd : decode c.code g.pc = .ok (.newarray aty, 2)) {n : Int32} {rest : List Value} (hs : g.stack = .int n :: rest)
    {k : Nat} (hn : n.toInt = (k : Int)) (cap : Nat) (hcap : k ≤ cap) (hb : cap * 8 ≤ 536870912) (hc : cells + 1 ≤ R.cells) (hl : slots + cap ≤ R.slots) :
    ∃ T' h' a, Stand p l e R s m args below meth c T' locs (cells + 1) (slots + cap) ∧ T'.heap = h' ∧ Ext h h' ∧ a = h.size ∧ AF Z h' a (newarray.typeOf aty) k (fun _ => defaultValue (newarray.typeOf aty)) ∧
      ∀ target, Steps p.tables e below (T'.setTop { g with pc := g.pc + 2, stack := .ref a :: rest }) target → Steps p.tables e below (T.setTop g) target := by
  have hn0 : ¬ n < 0 := by rw [Int32.lt_iff_toInt_lt, hn]; simp only [Int32.toInt_zero]; omega
  have hk : n.toNatClampNeg = k := own_idx hn
  have hk31 : k < 2 ^ 31 := by have := n.toInt_lt; omega
  obtain ⟨T', h', cA, X', e', E, A, st⟩ := newP X hx hZ w eT hg hd hs hn0 (by rw [hk]; exact hcap) hb hc hl
  refine ⟨T', h', h.size, X', e', E, rfl, ⟨hk31, _, A, by rw [sz_new, hk], fun j hj => ?_⟩, st⟩
  simp [newA, hk, hj]
theorem own_ldI (X : Stand p l e R s m args below meth c T locs cells slots) (hx : p.tables.exec = Jvm.exec) (hZ : Z.Warmed39 s.vm) (eT : T.heap = h) {a : Addr} {n i : Nat} {f : Nat → Value} (A : AF Z h a .int n f) {j : Int32} (hj : j.toInt = (i : Int)) (hi : i < n) {g : JFrame} (hg : g.method = m) {rest : List Value} (hs : g.stack = .int j :: .ref a :: rest) (hd : decode c.code g.pc = .ok (.iaload, 1)) {v : Value} (hv : f i = v) (target : State)
    (hr : Steps p.tables e below (T.setTop { g with pc := g.pc + 1, stack := v :: rest }) target) : Steps p.tables e below (T.setTop g) target := by
  obtain ⟨-, cl, Ar, S, H⟩ := A
  exact X.iaload hx (j := j) (v := v) (by rw [eT]; exact Ar.1) (State.isArrayOf_alike hZ.alike Ar.2.1) Ar.2.2 (own_in S hj hi) (by rw [own_idx hj, ← hv]; exact H i hi) hg hs hd target hr
theorem own_ldJ (X : Stand p l e R s m args below meth c T locs cells slots) (hx : p.tables.exec = Jvm.exec) (hZ : Z.Warmed39 s.vm) (eT : T.heap = h) {a : Addr} {n i : Nat} {f : Nat → Value} (A : AF Z h a .long n f) {j : Int32} (hj : j.toInt = (i : Int)) (hi : i < n) {g : JFrame} (hg : g.method = m) {rest : List Value} (hs : g.stack = .int j :: .ref a :: rest) (hd : decode c.code g.pc = .ok (.laload, 1)) {v : Value} (hv : f i = v) (target : State)
    (hr : Steps p.tables e below (T.setTop { g with pc := g.pc + 1, stack := v :: rest }) target) : Steps p.tables e below (T.setTop g) target := by
  obtain ⟨-, cl, Ar, S, H⟩ := A
  exact X.laload hx (j := j) (v := v) (by rw [eT]; exact Ar.1) (State.isArrayOf_alike hZ.alike Ar.2.1) Ar.2.2 (own_in S hj hi) (by rw [own_idx hj, ← hv]; exact H i hi) hg hs hd target hr
theorem own_ldB (X : Stand p l e R s m args below meth c T locs cells slots) (hx : p.tables.exec = Jvm.exec) (hZ : Z.Warmed39 s.vm) (eT : T.heap = h) {a : Addr} {n i : Nat} {f : Nat → Value} (A : AF Z h a .byte n f) {j : Int32} (hj : j.toInt = (i : Int)) (hi : i < n) {g : JFrame} (hg : g.method = m) {rest : List Value} (hs : g.stack = .int j :: .ref a :: rest) (hd : decode c.code g.pc = .ok (.baload, 1)) {v : Value} (hv : f i = v) (target : State)
    (hr : Steps p.tables e below (T.setTop { g with pc := g.pc + 1, stack := v :: rest }) target) : Steps p.tables e below (T.setTop g) target := by
  obtain ⟨-, cl, Ar, S, H⟩ := A
  exact X.baloadBytes hx (j := j) (v := v) (by rw [eT]; exact Ar.1) (State.isArrayOf_alike hZ.alike Ar.2.1) Ar.2.2 (own_in S hj hi) (by rw [own_idx hj, ← hv]; exact H i hi) hg hs hd target hr
theorem own_len (X : Stand p l e R s m args below meth c T locs cells slots) (hx : p.tables.exec = Jvm.exec) (hZ : Z.Warmed39 s.vm) (eT : T.heap = h) {a : Addr} {ty : FieldType} {n : Nat} {f : Nat → Value} (A : AF Z h a ty n f) {g : JFrame} (hg : g.method = m) {rest : List Value} (hs : g.stack = .ref a :: rest) (hd : decode c.code g.pc = .ok (.arraylength, 1)) (target : State)
    (hr : Steps p.tables e below (T.setTop { g with pc := g.pc + 1, stack := .int (Int32.ofNat n) :: rest }) target) : Steps p.tables e below (T.setTop g) target := by
  obtain ⟨-, cl, Ar, S, H⟩ := A
  refine X.arraylength hx (by rw [eT]; exact Ar.1) (State.isArrayOf_alike hZ.alike Ar.2.1) hg hs hd target ?_
  rw [S]; exact hr
end OwnKit
theorem pd_1 : parseMethodDescriptor "(II)V" = some ⟨[.int, .int], none⟩ := by decide +kernel
theorem pd_2 : parseMethodDescriptor "()V" = some ⟨[], none⟩ := by decide +kernel
theorem pd_3 : parseMethodDescriptor "(II)I" = some ⟨[.int, .int], some .int⟩ := by decide +kernel
theorem pd_4 : parseMethodDescriptor "(I)Z" = some ⟨[.int], some .boolean⟩ := by decide +kernel
theorem own_nz {p2 : Int32} {b : Nat} (hb : p2.toInt = (b : Int)) (h1 : 1 ≤ b) : ¬ (p2 = (0 : Int32)) := fun q => by
  rw [q, show (0 : Int32).toInt = 0 from by decide] at hb; omega
theorem own_z {x : Int32} {y : Nat} (h : x.toInt = (y : Int)) (h0 : y = 0) : x = (0 : Int32) := by
  rw [← Int32.toInt_inj, h, h0]; rfl
theorem own_pos {x : Int32} {y : Nat} (h : x.toInt = (y : Int)) (h0 : ¬ (x = (0 : Int32))) : 0 < y := by
  rcases Nat.eq_zero_or_pos y with q | q
  · exact absurd (own_z h q) h0
  · exact q
theorem own_less {x y N : Nat} {X3 : Int32} (h : X3.toInt = (y : Int)) (h0 : ¬ (X3 = (0 : Int32))) (hy : y ≤ N + 1) : x % y ≤ N := by
  have := Nat.mod_lt x (own_pos h h0)
  omega
theorem own_less0 {a b : Nat} (h : 1 ≤ b) : a % b ≤ b := Nat.le_of_lt (Nat.mod_lt a h)
theorem own_mod {x y : Nat} {X2 X3 : Int32} (h2 : X2.toInt = (x : Int)) (h3 : X3.toInt = (y : Int)) : (X2 % X3).toInt = ((x % y : Nat) : Int) := by
  rw [Int32.toInt_mod, h2, h3]; rfl
theorem own_gcd (x y : Nat) : Nat.gcd y (x % y) = Nat.gcd x y := by
  rw [Nat.gcd_comm, ← Nat.gcd_rec, Nat.gcd_comm]
theorem own_end {x y a b : Nat} {X2 X3 : Int32} (h2 : X2.toInt = (x : Int)) (h3 : X3.toInt = (y : Int)) (h0 : X3 = (0 : Int32)) (hg : Nat.gcd x y = Nat.gcd a b) : X2 = Int32.ofNat (Nat.gcd a b) := by
  have hy : y = 0 := by rw [h0, show (0 : Int32).toInt = 0 from by decide] at h3; omega
  rw [hy, Nat.gcd_zero_right] at hg
  have hl := X2.toInt_lt
  rw [← hg, ← Int32.toInt_inj, h2, Int32.toInt_ofNat_small (by omega)]
theorem own_i1 {p2 : Int32} {b : Nat} (hb : p2.toInt = (b : Int)) (h1 : 1 ≤ b) : ¬ (p2 < (1 : Int32)) := by
  rw [Int32.lt_iff_toInt_lt, hb, show (1 : Int32).toInt = 1 from by decide]; omega
theorem own_i2 {p1 : Int32} {a : Nat} (ha : p1.toInt = (a : Int)) : ¬ (p1 < (0 : Int32)) := by
  rw [Int32.lt_iff_toInt_lt, ha, show (0 : Int32).toInt = 0 from by decide]; omega
theorem own_i3 {p1 p2 : Int32} {a b : Nat} (ha : p1.toInt = (a : Int)) (hb : p2.toInt = (b : Int)) (h : a ≤ b) : ¬ (p2 < p1) := by
  rw [Int32.lt_iff_toInt_lt, ha, hb]; omega
theorem own_gpos {a b : Nat} (h1 : 1 ≤ b) : 0 < Nat.gcd a b := Nat.gcd_pos_of_pos_right a h1
theorem own_gle {a b : Nat} (h1 : 1 ≤ b) : Nat.gcd a b ≤ b := Nat.gcd_le_right a h1
theorem own_gint {p2 : Int32} {a b : Nat} (hb : p2.toInt = (b : Int)) (h1 : 1 ≤ b) : (Int32.ofNat (Nat.gcd a b)).toInt = ((Nat.gcd a b : Nat) : Int) := by
  have hl := p2.toInt_lt
  have := own_gle (a := a) h1
  exact Int32.toInt_ofNat_small (by omega)
theorem own_gnz {p2 : Int32} {a b : Nat} (hb : p2.toInt = (b : Int)) (h1 : 1 ≤ b) : (Int32.ofNat (Nat.gcd a b)) ≠ 0 := own_nz (own_gint hb h1) (own_gpos h1)
theorem d1_0 : decode jdk_29_method_65_code 0 = .ok (.iload_n 0, 1) := by decide +kernel
theorem d1_1 : decode jdk_29_method_65_code 1 = .ok (.iload_n 1, 1) := by decide +kernel
theorem d1_2 : decode jdk_29_method_65_code 2 = .ok (.if_icmp .lt 7, 3) := by decide +kernel
theorem d1_5 : decode jdk_29_method_65_code 5 = .ok (.iload_n 0, 1) := by decide +kernel
theorem d1_6 : decode jdk_29_method_65_code 6 = .ok (.goto 4, 3) := by decide +kernel
theorem d1_9 : decode jdk_29_method_65_code 9 = .ok (.iload_n 1, 1) := by decide +kernel
theorem d1_10 : decode jdk_29_method_65_code 10 = .ok (.ireturn, 1) := by decide +kernel
theorem ef_rm1 (m : MethodId) (p1 : Int32) (p2 : Int32) : entryFrame m #[(.int p1), (.int p2)] 2 = mkF m 0 #[.val (.int p1), .val (.int p2)] [] := by first | (simp [entryFrame, mkF, argsToLocals, Value.category]; done) | rfl
def f_rm1 (p1 : Int32) (p2 : Int32) : Int32 := (if p1 < p2 then p2 else p1)
def Q_rm1 (Z : State) (p1 : Int32) (p2 : Int32) (h0 : Heap) (n0 : Nat) (v : Option Value) (h : Heap) (L : List Loc) : Prop := v = some (.int (f_rm1 p1 p2)) ∧ Fr n0 L ∧ h = h0
set_option maxRecDepth 65536 in
set_option maxHeartbeats 40000000 in
theorem rm1 (l : Launch) (Z : State) (a0 : Array Value) (hw : ∀ d ∈ tables_1, d.before a0 Z = true) (ws : List Jvm.Cond) (p1 : Int32) (p2 : Int32) (h0 : Heap) (n0 : Nat) (Z0 : n0 ≤ h0.size)  :
    MetFree l (⟨"java/lang/Math", "max", "(II)I"⟩ : MethodName) (head1 (Jvm.Cond.code (⟨"java/lang/Math", "max", "(II)I"⟩ : MethodName) jdk_29_method_65_code 2 (some .int) :: ws) ({ frames := 0, cells := 0, slots := 0, locals := 0 } : Room)) (fun a U => a = #[(.int p1), (.int p2)] ∧ Z.Warmed39 U.vm ∧ U.heap = h0) (fun _ _ _ _ _ => True) (fun _ U o U' => ∃ v L, o = .returned v ∧ Q_rm1 Z p1 p2 h0 n0 v U'.heap L ∧ FrameEnd U o U' L ({ frames := 0, cells := 0, slots := 0, locals := 0 } : Room).cells ({ frames := 0, cells := 0, slots := 0, locals := 0 } : Room).slots) := by
  refine own_body (Q := Q_rm1 Z p1 p2 h0 n0) (Jvm.Free.JP.mathPlain rfl (by decide +kernel)) ?_
  intro p e s m below meth c s₁ K go fin X0 hx hby hml hown hnm hret hZ e0
  have hown : s.vm.findClass "java/lang/Math" = some m.cls := hown
  have N0 := Fr.nil n0
  refine go _ (s₁.setTop (mkF m 0 #[.val (.int p1), .val (.int p2)] [])) (fun t k => castTop (ef_rm1 m p1 p2) k) ?_
  refine go _ (s₁.setTop (mkF m 1 #[.val (.int p1), .val (.int p2)] [(.int p1)])) (fun t k => XS.iloadN X0.here hx rfl (hb hby d1_0) rfl k) ?_
  refine go _ (s₁.setTop (mkF m 2 #[.val (.int p1), .val (.int p2)] [(.int p2), (.int p1)])) (fun t k => XS.iloadN X0.here hx rfl (hb hby d1_1) rfl k) ?_
  by_cases hc1 : p1 < p2
  · refine go _ (s₁.setTop (mkF m 9 #[.val (.int p1), .val (.int p2)] [])) (fun t k => XS.icmpYes X0.here hx rfl (pc0 := 2) (pc' := 9) rfl (hb hby d1_2) rfl (tlt hc1).1 (by decide) (by decide) k) ?_
    refine go _ (s₁.setTop (mkF m 10 #[.val (.int p1), .val (.int p2)] [(.int p2)])) (fun t k => XS.iloadN X0.here hx rfl (hb hby d1_9) rfl k) ?_
    exact fin (some (.int p2)) X0 (by decide) (by decide) (fun q => by cases q) (show Q_rm1 Z p1 p2 h0 n0 _ s₁.heap _ from (by rw [e0]; exact ⟨congrArg some (congrArg Value.int (show (f_rm1 p1 p2) = p2 from (by unfold f_rm1; rw [if_pos hc1])).symm), N0, rfl⟩)) (fun fs hr => retI X0 hx hret (hb hby d1_10) hr)
  · refine go _ (s₁.setTop (mkF m 5 #[.val (.int p1), .val (.int p2)] [])) (fun t k => XS.icmpNo X0.here hx rfl (hb hby d1_2) rfl (flt hc1).1 k) ?_
    refine go _ (s₁.setTop (mkF m 6 #[.val (.int p1), .val (.int p2)] [(.int p1)])) (fun t k => XS.iloadN X0.here hx rfl (hb hby d1_5) rfl k) ?_
    refine go _ (s₁.setTop (mkF m 10 #[.val (.int p1), .val (.int p2)] [(.int p1)])) (fun t k => XS.goto X0.here hx rfl (pc0 := 6) (pc' := 10) rfl (hb hby d1_6) (by decide) (by decide) k) ?_
    exact fin (some (.int p1)) X0 (by decide) (by decide) (fun q => by cases q) (show Q_rm1 Z p1 p2 h0 n0 _ s₁.heap _ from (by rw [e0]; exact ⟨congrArg some (congrArg Value.int (show (f_rm1 p1 p2) = p1 from (by unfold f_rm1; rw [if_neg hc1])).symm), N0, rfl⟩)) (fun fs hr => retI X0 hx hret (hb hby d1_10) hr)
theorem d3_0 : decode jdk_30_method_1_code 0 = .ok (.aload_n 0, 1) := by decide +kernel
theorem d3_1 : decode jdk_30_method_1_code 1 = .ok (.invokespecial 1, 3) := by decide +kernel
theorem d3_4 : decode jdk_30_method_1_code 4 = .ok (.return_, 1) := by decide +kernel
theorem pn_8 : plainName "java/lang/Record" = true := by first | (simp [plainName, overriddenIn]; done) | decide +kernel
theorem ef_rm3 (m : MethodId) (a1 : Addr) : entryFrame m #[(.ref a1)] 1 = mkF m 0 #[.val (.ref a1)] [] := by first | (simp [entryFrame, mkF, argsToLocals, Value.category]; done) | rfl
def Q_rm3 (Z : State) (a1 : Addr) (h0 : Heap) (n0 : Nat) (v : Option Value) (h : Heap) (L : List Loc) : Prop := v = none ∧ Fr n0 L ∧ h = h0
set_option maxRecDepth 65536 in
set_option maxHeartbeats 40000000 in
theorem rm3 (l : Launch) (Z : State) (a0 : Array Value) (hw : ∀ d ∈ tables_1, d.before a0 Z = true) (ws : List Jvm.Cond) (a1 : Addr) (h0 : Heap) (n0 : Nat) (Z0 : n0 ≤ h0.size)  :
    MetFree l (⟨"java/lang/Record", "<init>", "()V"⟩ : MethodName) (head1 (Jvm.Cond.code (⟨"java/lang/Record", "<init>", "()V"⟩ : MethodName) jdk_30_method_1_code 1 none :: ws) ({ frames := 1, cells := 0, slots := 0, locals := 12 } : Room)) (fun a U => a = #[(.ref a1)] ∧ Z.Warmed39 U.vm ∧ U.heap = h0) (fun _ _ _ _ _ => True) (fun _ U o U' => ∃ v L, o = .returned v ∧ Q_rm3 Z a1 h0 n0 v U'.heap L ∧ FrameEnd U o U' L ({ frames := 1, cells := 0, slots := 0, locals := 12 } : Room).cells ({ frames := 1, cells := 0, slots := 0, locals := 12 } : Room).slots) := by
  refine own_body (Q := Q_rm3 Z a1 h0 n0) (plainFor_of_name pn_8) ?_
  intro p e s m below meth c s₁ K go fin X0 hx hby hml hown hnm hret hZ e0
  have hown : s.vm.findClass "java/lang/Record" = some m.cls := hown
  have N0 := Fr.nil n0
  refine go _ (s₁.setTop (mkF m 0 #[.val (.ref a1)] [])) (fun t k => castTop (ef_rm3 m a1) k) ?_
  refine go _ (s₁.setTop (mkF m 1 #[.val (.ref a1)] [(.ref a1)])) (fun t k => XS.aloadN X0.here hx rfl (hb hby d3_0) rfl rfl k) ?_
  obtain ⟨T2, X2, e2, st2⟩ := initO X0 hx hZ hown (hw _ (List.mem_of_getElem? (i := 17) rfl)) (hw _ (List.mem_of_getElem? (i := 18) rfl)) (hw _ (List.mem_of_getElem? (i := 19) rfl)) e0 (g := (mkF m 1 #[.val (.ref a1)] [(.ref a1)])) rfl (by rw [hml]; rfl) rfl (hb hby d3_1) (by decide) (W := 0) (by show 2 * 0 + _ ≤ _; exact Nat.le_of_eq rfl) (by decide)
  refine go _ (T2.setTop (mkF m 4 #[.val (.ref a1)] [])) (st2) ?_
  exact fin none X2 (by decide) (by decide) (fun _ => rfl) (show Q_rm3 Z a1 h0 n0 _ T2.heap _ from (by rw [e2]; exact ⟨rfl, N0, rfl⟩)) (fun fs hr => X2.returnOut hx hret (hb hby d3_4) hr)
theorem d5_0 : decode prog_13_method_6_code 0 = .ok (.iload_n 0, 1) := by decide +kernel
theorem d5_1 : decode prog_13_method_6_code 1 = .ok (.istore_n 2, 1) := by decide +kernel
theorem d5_2 : decode prog_13_method_6_code 2 = .ok (.iload_n 1, 1) := by decide +kernel
theorem d5_3 : decode prog_13_method_6_code 3 = .ok (.istore_n 3, 1) := by decide +kernel
theorem d5_4 : decode prog_13_method_6_code 4 = .ok (.iload_n 3, 1) := by decide +kernel
theorem d5_5 : decode prog_13_method_6_code 5 = .ok (.ifCond .eq 16, 3) := by decide +kernel
theorem d5_8 : decode prog_13_method_6_code 8 = .ok (.iload_n 2, 1) := by decide +kernel
theorem d5_9 : decode prog_13_method_6_code 9 = .ok (.iload_n 3, 1) := by decide +kernel
theorem d5_10 : decode prog_13_method_6_code 10 = .ok (.irem, 1) := by decide +kernel
theorem d5_11 : decode prog_13_method_6_code 11 = .ok (.istore 4, 2) := by decide +kernel
theorem d5_13 : decode prog_13_method_6_code 13 = .ok (.iload_n 3, 1) := by decide +kernel
theorem d5_14 : decode prog_13_method_6_code 14 = .ok (.istore_n 2, 1) := by decide +kernel
theorem d5_15 : decode prog_13_method_6_code 15 = .ok (.iload 4, 2) := by decide +kernel
theorem d5_17 : decode prog_13_method_6_code 17 = .ok (.istore_n 3, 1) := by decide +kernel
theorem d5_18 : decode prog_13_method_6_code 18 = .ok (.goto (-14), 3) := by decide +kernel
theorem d5_21 : decode prog_13_method_6_code 21 = .ok (.iload_n 2, 1) := by decide +kernel
theorem d5_22 : decode prog_13_method_6_code 22 = .ok (.ireturn, 1) := by decide +kernel
theorem pn_10 : plainName "com/example/bipartite_map/bipartitemap/cluster/Similarity" = true := by first | (simp [plainName, overriddenIn]; done) | decide +kernel
theorem ef_rm5 (m : MethodId) (p1 : Int32) (p2 : Int32) : entryFrame m #[(.int p1), (.int p2)] 5 = mkF m 0 #[.val (.int p1), .val (.int p2), .unset, .unset, .unset] [] := by first | (simp [entryFrame, mkF, argsToLocals, Value.category]; done) | rfl
def Q_rm5 (Z : State) (p1 : Int32) (p2 : Int32) (a : Nat) (b : Nat) (h0 : Heap) (n0 : Nat) (v : Option Value) (h : Heap) (L : List Loc) : Prop := v = some (.int (Int32.ofNat (Nat.gcd a b))) ∧ Fr n0 L ∧ h = h0
set_option maxRecDepth 65536 in
set_option maxHeartbeats 40000000 in
theorem rm5 (l : Launch) (Z : State) (a0 : Array Value) (hw : ∀ d ∈ tables_1, d.before a0 Z = true) (ws : List Jvm.Cond) (p1 : Int32) (p2 : Int32) (a : Nat) (b : Nat) (h0 : Heap) (n0 : Nat) (Z0 : n0 ≤ h0.size) (ha : p1.toInt = (a : Int)) (hB : p2.toInt = (b : Int)) (h1 : 1 ≤ b) :
    MetFree l (⟨"com/example/bipartite_map/bipartitemap/cluster/Similarity", "gcd", "(II)I"⟩ : MethodName) (head1 (Jvm.Cond.code (⟨"com/example/bipartite_map/bipartitemap/cluster/Similarity", "gcd", "(II)I"⟩ : MethodName) prog_13_method_6_code 5 (some .int) :: ws) ({ frames := 0, cells := 0, slots := 0, locals := 0 } : Room)) (fun a U => a = #[(.int p1), (.int p2)] ∧ Z.Warmed39 U.vm ∧ U.heap = h0) (fun _ _ _ _ _ => True) (fun _ U o U' => ∃ v L, o = .returned v ∧ Q_rm5 Z p1 p2 a b h0 n0 v U'.heap L ∧ FrameEnd U o U' L ({ frames := 0, cells := 0, slots := 0, locals := 0 } : Room).cells ({ frames := 0, cells := 0, slots := 0, locals := 0 } : Room).slots) := by
  refine own_body (Q := Q_rm5 Z p1 p2 a b h0 n0) (plainFor_of_name pn_10) ?_
  intro p e s m below meth c s₁ K go fin X0 hx hby hml hown hnm hret hZ e0
  have hown : s.vm.findClass "com/example/bipartite_map/bipartitemap/cluster/Similarity" = some m.cls := hown
  have N0 := Fr.nil n0
  refine go _ (s₁.setTop (mkF m 0 #[.val (.int p1), .val (.int p2), .unset, .unset, .unset] [])) (fun t k => castTop (ef_rm5 m p1 p2) k) ?_
  refine go _ (s₁.setTop (mkF m 1 #[.val (.int p1), .val (.int p2), .unset, .unset, .unset] [(.int p1)])) (fun t k => XS.iloadN X0.here hx rfl (hb hby d5_0) rfl k) ?_
  refine go _ (s₁.setTop (mkF m 2 #[.val (.int p1), .val (.int p2), .val (.int p1), .unset, .unset] [])) (fun t k => XS.istoreN X0.here hx rfl (hb hby d5_1) rfl (l' := #[.val (.int p1), .val (.int p2), .val (.int p1), .unset, .unset]) rfl k) ?_
  refine go _ (s₁.setTop (mkF m 3 #[.val (.int p1), .val (.int p2), .val (.int p1), .unset, .unset] [(.int p2)])) (fun t k => XS.iloadN X0.here hx rfl (hb hby d5_2) rfl k) ?_
  refine go _ (s₁.setTop (mkF m 4 #[.val (.int p1), .val (.int p2), .val (.int p1), .val (.int p2), .unset] [])) (fun t k => XS.istoreN X0.here hx rfl (hb hby d5_3) rfl (l' := #[.val (.int p1), .val (.int p2), .val (.int p1), .val (.int p2), .unset]) rfl k) ?_
  refine go _ (s₁.setTop (mkF m 5 #[.val (.int p1), .val (.int p2), .val (.int p1), .val (.int p2), .unset] [(.int p2)])) (fun t k => XS.iloadN X0.here hx rfl (hb hby d5_4) rfl k) ?_
  have hc3 : ¬ (p2 = (0 : Int32)) := own_nz hB h1
  refine go _ (s₁.setTop (mkF m 8 #[.val (.int p1), .val (.int p2), .val (.int p1), .val (.int p2), .unset] [])) (fun t k => XS.ifNo X0.here hx rfl (hb hby d5_5) rfl ((if0 _ _).trans (feq hc3).1) k) ?_
  refine go _ (s₁.setTop (mkF m 9 #[.val (.int p1), .val (.int p2), .val (.int p1), .val (.int p2), .unset] [(.int p1)])) (fun t k => XS.iloadN X0.here hx rfl (hb hby d5_8) rfl k) ?_
  refine go _ (s₁.setTop (mkF m 10 #[.val (.int p1), .val (.int p2), .val (.int p1), .val (.int p2), .unset] [(.int p2), (.int p1)])) (fun t k => XS.iloadN X0.here hx rfl (hb hby d5_9) rfl k) ?_
  refine go _ (s₁.setTop (mkF m 11 #[.val (.int p1), .val (.int p2), .val (.int p1), .val (.int p2), .unset] [(.int (p1 % p2))])) (fun t k => iremM X0 hx rfl (hb hby d5_10) rfl (own_nz hB h1) k) ?_
  refine go _ (s₁.setTop (mkF m 13 #[.val (.int p1), .val (.int p2), .val (.int p1), .val (.int p2), .val (.int (p1 % p2))] [])) (fun t k => XS.istore X0.here hx rfl (hb hby d5_11) rfl (l' := #[.val (.int p1), .val (.int p2), .val (.int p1), .val (.int p2), .val (.int (p1 % p2))]) rfl k) ?_
  refine go _ (s₁.setTop (mkF m 14 #[.val (.int p1), .val (.int p2), .val (.int p1), .val (.int p2), .val (.int (p1 % p2))] [(.int p2)])) (fun t k => XS.iloadN X0.here hx rfl (hb hby d5_13) rfl k) ?_
  refine go _ (s₁.setTop (mkF m 15 #[.val (.int p1), .val (.int p2), .val (.int p2), .val (.int p2), .val (.int (p1 % p2))] [])) (fun t k => XS.istoreN X0.here hx rfl (hb hby d5_14) rfl (l' := #[.val (.int p1), .val (.int p2), .val (.int p2), .val (.int p2), .val (.int (p1 % p2))]) rfl k) ?_
  refine go _ (s₁.setTop (mkF m 17 #[.val (.int p1), .val (.int p2), .val (.int p2), .val (.int p2), .val (.int (p1 % p2))] [(.int (p1 % p2))])) (fun t k => XS.iload X0.here hx rfl (hb hby d5_15) rfl k) ?_
  refine go _ (s₁.setTop (mkF m 18 #[.val (.int p1), .val (.int p2), .val (.int p2), .val (.int (p1 % p2)), .val (.int (p1 % p2))] [])) (fun t k => XS.istoreN X0.here hx rfl (hb hby d5_17) rfl (l' := #[.val (.int p1), .val (.int p2), .val (.int p2), .val (.int (p1 % p2)), .val (.int (p1 % p2))]) rfl k) ?_
  refine go _ (s₁.setTop (mkF m 4 #[.val (.int p1), .val (.int p2), .val (.int p2), .val (.int (p1 % p2)), .val (.int (p1 % p2))] [])) (fun t k => XS.goto X0.here hx rfl (pc0 := 18) (pc' := 4) rfl (hb hby d5_18) (by decide) (by decide) k) ?_
  have loop : ∀ (N x y : Nat) (X2 X3 X4 : Int32), y ≤ N → X2.toInt = (x : Int) → X3.toInt = (y : Int) → Nat.gcd x y = Nat.gcd a b → K (s₁.setTop (mkF m 4 #[.val (.int p1), .val (.int p2), .val (.int X2), .val (.int X3), .val (.int X4)] [])) := by
    intro N
    induction N with
    | zero =>
      intro x y X2 X3 X4 hy hx2 hx3 hg
      refine go _ (s₁.setTop (mkF m 5 #[.val (.int p1), .val (.int p2), .val (.int X2), .val (.int X3), .val (.int X4)] [(.int X3)])) (fun t k => XS.iloadN X0.here hx rfl (hb hby d5_4) rfl k) ?_
      have hc4 : (X3 = (0 : Int32)) := own_z hx3 (by omega)
      refine go _ (s₁.setTop (mkF m 21 #[.val (.int p1), .val (.int p2), .val (.int X2), .val (.int X3), .val (.int X4)] [])) (fun t k => XS.ifYes X0.here hx rfl (pc0 := 5) (pc' := 21) rfl (hb hby d5_5) rfl ((if0 _ _).trans (teq hc4).1) (by decide) (by decide) k) ?_
      refine go _ (s₁.setTop (mkF m 22 #[.val (.int p1), .val (.int p2), .val (.int X2), .val (.int X3), .val (.int X4)] [(.int X2)])) (fun t k => XS.iloadN X0.here hx rfl (hb hby d5_21) rfl k) ?_
      exact fin (some (.int X2)) X0 (by decide) (by decide) (fun q => by cases q) (show Q_rm5 Z p1 p2 a b h0 n0 _ s₁.heap _ from (by rw [e0]; exact ⟨congrArg some (congrArg Value.int (own_end hx2 hx3 hc4 hg)), N0, rfl⟩)) (fun fs hr => retI X0 hx hret (hb hby d5_22) hr)
    | succ N ih =>
      intro x y X2 X3 X4 hy hx2 hx3 hg
      refine go _ (s₁.setTop (mkF m 5 #[.val (.int p1), .val (.int p2), .val (.int X2), .val (.int X3), .val (.int X4)] [(.int X3)])) (fun t k => XS.iloadN X0.here hx rfl (hb hby d5_4) rfl k) ?_
      by_cases hc5 : X3 = (0 : Int32)
      · refine go _ (s₁.setTop (mkF m 21 #[.val (.int p1), .val (.int p2), .val (.int X2), .val (.int X3), .val (.int X4)] [])) (fun t k => XS.ifYes X0.here hx rfl (pc0 := 5) (pc' := 21) rfl (hb hby d5_5) rfl ((if0 _ _).trans (teq hc5).1) (by decide) (by decide) k) ?_
        refine go _ (s₁.setTop (mkF m 22 #[.val (.int p1), .val (.int p2), .val (.int X2), .val (.int X3), .val (.int X4)] [(.int X2)])) (fun t k => XS.iloadN X0.here hx rfl (hb hby d5_21) rfl k) ?_
        exact fin (some (.int X2)) X0 (by decide) (by decide) (fun q => by cases q) (show Q_rm5 Z p1 p2 a b h0 n0 _ s₁.heap _ from (by rw [e0]; exact ⟨congrArg some (congrArg Value.int (own_end hx2 hx3 hc5 hg)), N0, rfl⟩)) (fun fs hr => retI X0 hx hret (hb hby d5_22) hr)
      · refine go _ (s₁.setTop (mkF m 8 #[.val (.int p1), .val (.int p2), .val (.int X2), .val (.int X3), .val (.int X4)] [])) (fun t k => XS.ifNo X0.here hx rfl (hb hby d5_5) rfl ((if0 _ _).trans (feq hc5).1) k) ?_
        refine go _ (s₁.setTop (mkF m 9 #[.val (.int p1), .val (.int p2), .val (.int X2), .val (.int X3), .val (.int X4)] [(.int X2)])) (fun t k => XS.iloadN X0.here hx rfl (hb hby d5_8) rfl k) ?_
        refine go _ (s₁.setTop (mkF m 10 #[.val (.int p1), .val (.int p2), .val (.int X2), .val (.int X3), .val (.int X4)] [(.int X3), (.int X2)])) (fun t k => XS.iloadN X0.here hx rfl (hb hby d5_9) rfl k) ?_
        refine go _ (s₁.setTop (mkF m 11 #[.val (.int p1), .val (.int p2), .val (.int X2), .val (.int X3), .val (.int X4)] [(.int (X2 % X3))])) (fun t k => iremM X0 hx rfl (hb hby d5_10) rfl hc5 k) ?_
        refine go _ (s₁.setTop (mkF m 13 #[.val (.int p1), .val (.int p2), .val (.int X2), .val (.int X3), .val (.int (X2 % X3))] [])) (fun t k => XS.istore X0.here hx rfl (hb hby d5_11) rfl (l' := #[.val (.int p1), .val (.int p2), .val (.int X2), .val (.int X3), .val (.int (X2 % X3))]) rfl k) ?_
        refine go _ (s₁.setTop (mkF m 14 #[.val (.int p1), .val (.int p2), .val (.int X2), .val (.int X3), .val (.int (X2 % X3))] [(.int X3)])) (fun t k => XS.iloadN X0.here hx rfl (hb hby d5_13) rfl k) ?_
        refine go _ (s₁.setTop (mkF m 15 #[.val (.int p1), .val (.int p2), .val (.int X3), .val (.int X3), .val (.int (X2 % X3))] [])) (fun t k => XS.istoreN X0.here hx rfl (hb hby d5_14) rfl (l' := #[.val (.int p1), .val (.int p2), .val (.int X3), .val (.int X3), .val (.int (X2 % X3))]) rfl k) ?_
        refine go _ (s₁.setTop (mkF m 17 #[.val (.int p1), .val (.int p2), .val (.int X3), .val (.int X3), .val (.int (X2 % X3))] [(.int (X2 % X3))])) (fun t k => XS.iload X0.here hx rfl (hb hby d5_15) rfl k) ?_
        refine go _ (s₁.setTop (mkF m 18 #[.val (.int p1), .val (.int p2), .val (.int X3), .val (.int (X2 % X3)), .val (.int (X2 % X3))] [])) (fun t k => XS.istoreN X0.here hx rfl (hb hby d5_17) rfl (l' := #[.val (.int p1), .val (.int p2), .val (.int X3), .val (.int (X2 % X3)), .val (.int (X2 % X3))]) rfl k) ?_
        refine go _ (s₁.setTop (mkF m 4 #[.val (.int p1), .val (.int p2), .val (.int X3), .val (.int (X2 % X3)), .val (.int (X2 % X3))] [])) (fun t k => XS.goto X0.here hx rfl (pc0 := 18) (pc' := 4) rfl (hb hby d5_18) (by decide) (by decide) k) ?_
        exact ih y (x % y) _ _ _ (own_less hx3 hc5 hy) hx3 (own_mod hx2 hx3) ((own_gcd x y).trans hg)
  exact loop b b (a % b) _ _ _ (own_less0 h1) hB (own_mod ha hB) (own_gcd a b)
theorem d2_0 : decode prog_13_method_1_code 0 = .ok (.aload_n 0, 1) := by decide +kernel
theorem d2_1 : decode prog_13_method_1_code 1 = .ok (.invokespecial 1, 3) := by decide +kernel
theorem d2_4 : decode prog_13_method_1_code 4 = .ok (.iload_n 2, 1) := by decide +kernel
theorem d2_5 : decode prog_13_method_1_code 5 = .ok (.iconst 1, 1) := by decide +kernel
theorem d2_6 : decode prog_13_method_1_code 6 = .ok (.if_icmp .lt 12, 3) := by decide +kernel
theorem d2_9 : decode prog_13_method_1_code 9 = .ok (.iload_n 1, 1) := by decide +kernel
theorem d2_10 : decode prog_13_method_1_code 10 = .ok (.ifCond .lt 8, 3) := by decide +kernel
theorem d2_13 : decode prog_13_method_1_code 13 = .ok (.iload_n 1, 1) := by decide +kernel
theorem d2_14 : decode prog_13_method_1_code 14 = .ok (.iload_n 2, 1) := by decide +kernel
theorem d2_15 : decode prog_13_method_1_code 15 = .ok (.if_icmp .le 18, 3) := by decide +kernel
theorem d2_18 : decode prog_13_method_1_code 18 = .ok (.new 7, 3) := by decide +kernel
theorem d2_21 : decode prog_13_method_1_code 21 = .ok (.dup, 1) := by decide +kernel
theorem d2_22 : decode prog_13_method_1_code 22 = .ok (.iload_n 1, 1) := by decide +kernel
theorem d2_23 : decode prog_13_method_1_code 23 = .ok (.iload_n 2, 1) := by decide +kernel
theorem d2_29 : decode prog_13_method_1_code 29 = .ok (.invokespecial 13, 3) := by decide +kernel
theorem d2_32 : decode prog_13_method_1_code 32 = .ok (.athrow, 1) := by decide +kernel
theorem d2_33 : decode prog_13_method_1_code 33 = .ok (.iload_n 1, 1) := by decide +kernel
theorem d2_34 : decode prog_13_method_1_code 34 = .ok (.iload_n 2, 1) := by decide +kernel
theorem d2_35 : decode prog_13_method_1_code 35 = .ok (.invokestatic 16, 3) := by decide +kernel
theorem d2_38 : decode prog_13_method_1_code 38 = .ok (.istore_n 3, 1) := by decide +kernel
theorem d2_39 : decode prog_13_method_1_code 39 = .ok (.iload_n 1, 1) := by decide +kernel
theorem d2_40 : decode prog_13_method_1_code 40 = .ok (.iload_n 3, 1) := by decide +kernel
theorem d2_41 : decode prog_13_method_1_code 41 = .ok (.idiv, 1) := by decide +kernel
theorem d2_42 : decode prog_13_method_1_code 42 = .ok (.istore_n 1, 1) := by decide +kernel
theorem d2_43 : decode prog_13_method_1_code 43 = .ok (.iload_n 2, 1) := by decide +kernel
theorem d2_44 : decode prog_13_method_1_code 44 = .ok (.iload_n 3, 1) := by decide +kernel
theorem d2_45 : decode prog_13_method_1_code 45 = .ok (.idiv, 1) := by decide +kernel
theorem d2_46 : decode prog_13_method_1_code 46 = .ok (.istore_n 2, 1) := by decide +kernel
theorem d2_47 : decode prog_13_method_1_code 47 = .ok (.aload_n 0, 1) := by decide +kernel
theorem d2_48 : decode prog_13_method_1_code 48 = .ok (.iload_n 1, 1) := by decide +kernel
theorem d2_49 : decode prog_13_method_1_code 49 = .ok (.putfield 22, 3) := by decide +kernel
theorem d2_52 : decode prog_13_method_1_code 52 = .ok (.aload_n 0, 1) := by decide +kernel
theorem d2_53 : decode prog_13_method_1_code 53 = .ok (.iload_n 2, 1) := by decide +kernel
theorem d2_54 : decode prog_13_method_1_code 54 = .ok (.putfield 26, 3) := by decide +kernel
theorem d2_57 : decode prog_13_method_1_code 57 = .ok (.return_, 1) := by decide +kernel
theorem ef_rm2 (m : MethodId) (a1 : Addr) (p1 : Int32) (p2 : Int32) : entryFrame m #[(.ref a1), (.int p1), (.int p2)] 4 = mkF m 0 #[.val (.ref a1), .val (.int p1), .val (.int p2), .unset] [] := by first | (simp [entryFrame, mkF, argsToLocals, Value.category]; done) | rfl
def Q_rm2 (Z : State) (a1 : Addr) (p1 : Int32) (p2 : Int32) (a : Nat) (b : Nat) (h0 : Heap) (n0 : Nat) (v : Option Value) (h : Heap) (L : List Loc) : Prop := v = none ∧ Fr n0 L ∧ Keep h0 h [a1] ∧ Exa Z h a1 "com/example/bipartite_map/bipartitemap/cluster/Similarity" ∧ Fld Z h a1 "com/example/bipartite_map/bipartitemap/cluster/Similarity" "shared" "I" (.int (p1 / (Int32.ofNat (Nat.gcd a b)))) ∧ Fld Z h a1 "com/example/bipartite_map/bipartitemap/cluster/Similarity" "either" "I" (.int (p2 / (Int32.ofNat (Nat.gcd a b))))
set_option maxRecDepth 65536 in
set_option maxHeartbeats 40000000 in
theorem rm2 (l : Launch) (Z : State) (a0 : Array Value) (hw : ∀ d ∈ tables_1, d.before a0 Z = true) (ws : List Jvm.Cond) (a1 : Addr) (p1 : Int32) (p2 : Int32) (a : Nat) (b : Nat) (h0 : Heap) (n0 : Nat) (Z0 : n0 ≤ h0.size) (E0 : Exa Z h0 a1 "com/example/bipartite_map/bipartitemap/cluster/Similarity") (g0 : n0 ≤ a1) (F0 : Fld Z h0 a1 "com/example/bipartite_map/bipartitemap/cluster/Similarity" "shared" "I" (.int 0)) (F1 : Fld Z h0 a1 "com/example/bipartite_map/bipartitemap/cluster/Similarity" "either" "I" (.int 0)) (ha : p1.toInt = (a : Int)) (hB : p2.toInt = (b : Int)) (h1 : 1 ≤ b) (hab : a ≤ b) :
    MetFree l (⟨"com/example/bipartite_map/bipartitemap/cluster/Similarity", "<init>", "(II)V"⟩ : MethodName) (head1 (Jvm.Cond.code (⟨"com/example/bipartite_map/bipartitemap/cluster/Similarity", "<init>", "(II)V"⟩ : MethodName) prog_13_method_1_code 4 none :: ws) ({ frames := 2, cells := 0, slots := 0, locals := 24 } : Room)) (fun a U => a = #[(.ref a1), (.int p1), (.int p2)] ∧ Z.Warmed39 U.vm ∧ U.heap = h0) (fun _ _ _ _ _ => True) (fun _ U o U' => ∃ v L, o = .returned v ∧ Q_rm2 Z a1 p1 p2 a b h0 n0 v U'.heap L ∧ FrameEnd U o U' L ({ frames := 2, cells := 0, slots := 0, locals := 24 } : Room).cells ({ frames := 2, cells := 0, slots := 0, locals := 24 } : Room).slots) := by
  refine own_body (Q := Q_rm2 Z a1 p1 p2 a b h0 n0) (plainFor_of_name pn_10) ?_
  intro p e s m below meth c s₁ K go fin X0 hx hby hml hown hnm hret hZ e0
  have hown : s.vm.findClass "com/example/bipartite_map/bipartitemap/cluster/Similarity" = some m.cls := hown
  have N0 := Fr.nil n0
  have K0 : Keep h0 h0 [a1] := Keep.refl h0 _
  refine go _ (s₁.setTop (mkF m 0 #[.val (.ref a1), .val (.int p1), .val (.int p2), .unset] [])) (fun t k => castTop (ef_rm2 m a1 p1 p2) k) ?_
  refine go _ (s₁.setTop (mkF m 1 #[.val (.ref a1), .val (.int p1), .val (.int p2), .unset] [(.ref a1)])) (fun t k => XS.aloadN X0.here hx rfl (hb hby d2_0) rfl rfl k) ?_
  obtain ⟨_, _, ⟨T6, L6, k6, n6⟩, -, X6, ⟨Lc6, hQ6, l6, y6, z6⟩, st6⟩ := X0.specialBack hx (y := (⟨"java/lang/Record", "<init>", "()V"⟩ : MethodName)) rfl hown (mvT hZ (hw _ (List.mem_of_getElem? (i := 12) rfl))) (mvT hZ (hw _ (List.mem_of_getElem? (i := 13) rfl))) (mvT hZ (hw _ (List.mem_of_getElem? (i := 16) rfl))) (by decide) (backOf (W := 0) (rm3 l Z a0 hw [] a1  h0 n0 Z0 ) hZ (hw _ (List.mem_of_getElem? (i := 16) rfl)) (hw _ (List.mem_of_getElem? (i := 15) rfl)) (by decide) (by decide)) (g := (mkF m 1 #[.val (.ref a1), .val (.int p1), .val (.int p2), .unset] [(.ref a1)])) rfl (by rw [hml]; rfl) (Steps.refl _) (a := a1) (argsL := []) (rest := []) (lenOf pd_2 rfl) rfl (by show 2 * 0 + _ ≤ _; exact Nat.le_of_eq rfl) (hb hby d2_1) (fun _ _ => ⟨rfl, e0, (by decide : 0 + 0 ≤ _), (by decide : 0 + 0 ≤ _)⟩)
  dsimp only [Pt.U, Pt.locs, Pt.cells, Pt.slots] at X6 l6 y6 z6 st6 hQ6
  subst l6 y6 z6
  obtain ⟨rfl, Nq6, hh6⟩ := hQ6
  have N7 := Fr.app N0 Nq6
  refine go _ (T6.setTop (mkF m 4 #[.val (.ref a1), .val (.int p1), .val (.int p2), .unset] [])) (fun t k => st6.trans k) ?_
  refine go _ (T6.setTop (mkF m 5 #[.val (.ref a1), .val (.int p1), .val (.int p2), .unset] [(.int p2)])) (fun t k => XS.iloadN X6.here hx rfl (hb hby d2_4) rfl k) ?_
  refine go _ (T6.setTop (mkF m 6 #[.val (.ref a1), .val (.int p1), .val (.int p2), .unset] [(.int (1 : Int32)), (.int p2)])) (fun t k => XS.iconst X6.here hx rfl (hb hby d2_5) k) ?_
  have hc8 : ¬ (p2 < (1 : Int32)) := own_i1 hB h1
  refine go _ (T6.setTop (mkF m 9 #[.val (.ref a1), .val (.int p1), .val (.int p2), .unset] [])) (fun t k => XS.icmpNo X6.here hx rfl (hb hby d2_6) rfl (flt hc8).1 k) ?_
  refine go _ (T6.setTop (mkF m 10 #[.val (.ref a1), .val (.int p1), .val (.int p2), .unset] [(.int p1)])) (fun t k => XS.iloadN X6.here hx rfl (hb hby d2_9) rfl k) ?_
  have hc9 : ¬ (p1 < (0 : Int32)) := own_i2 ha
  refine go _ (T6.setTop (mkF m 13 #[.val (.ref a1), .val (.int p1), .val (.int p2), .unset] [])) (fun t k => XS.ifNo X6.here hx rfl (hb hby d2_10) rfl ((if0 _ _).trans (flt hc9).1) k) ?_
  refine go _ (T6.setTop (mkF m 14 #[.val (.ref a1), .val (.int p1), .val (.int p2), .unset] [(.int p1)])) (fun t k => XS.iloadN X6.here hx rfl (hb hby d2_13) rfl k) ?_
  refine go _ (T6.setTop (mkF m 15 #[.val (.ref a1), .val (.int p1), .val (.int p2), .unset] [(.int p2), (.int p1)])) (fun t k => XS.iloadN X6.here hx rfl (hb hby d2_14) rfl k) ?_
  have hc10 : ¬ (p2 < p1) := own_i3 ha hB hab
  refine go _ (T6.setTop (mkF m 33 #[.val (.ref a1), .val (.int p1), .val (.int p2), .unset] [])) (fun t k => XS.icmpYes X6.here hx rfl (pc0 := 15) (pc' := 33) rfl (hb hby d2_15) rfl (flt hc10).2.2.2 (by decide) (by decide) k) ?_
  refine go _ (T6.setTop (mkF m 34 #[.val (.ref a1), .val (.int p1), .val (.int p2), .unset] [(.int p1)])) (fun t k => XS.iloadN X6.here hx rfl (hb hby d2_33) rfl k) ?_
  refine go _ (T6.setTop (mkF m 35 #[.val (.ref a1), .val (.int p1), .val (.int p2), .unset] [(.int p2), (.int p1)])) (fun t k => XS.iloadN X6.here hx rfl (hb hby d2_34) rfl k) ?_
  obtain ⟨_, _, ⟨T11, L11, k11, n11⟩, -, X11, ⟨Lc11, hQ11, l11, y11, z11⟩, st11⟩ := Jvm.LawKit.callS X6 hx (y := (⟨"com/example/bipartite_map/bipartitemap/cluster/Similarity", "gcd", "(II)I"⟩ : MethodName)) hown (mvT hZ (hw _ (List.mem_of_getElem? (i := 20) rfl))) (mvT hZ (hw _ (List.mem_of_getElem? (i := 21) rfl))) (mvT hZ (hw _ (List.mem_of_getElem? (i := 8) rfl))) (mvT hZ (hw _ (List.mem_of_getElem? (i := 22) rfl))) (by decide) (backOf (W := 0) (rm5 l Z a0 hw [] p1 p2 a b h0 n0 Z0 ha hB h1) hZ (hw _ (List.mem_of_getElem? (i := 22) rfl)) (hw _ (List.mem_of_getElem? (i := 8) rfl)) (by decide) (by decide)) (g := (mkF m 35 #[.val (.ref a1), .val (.int p1), .val (.int p2), .unset] [(.int p2), (.int p1)])) rfl (by rw [hml]; rfl) (argsL := [(.int p1), (.int p2)]) (rest := []) (lenOf pd_3 rfl) rfl (by show 2 * 0 + _ ≤ _; exact Nat.le_of_eq rfl) (hb hby d2_35) (fun _ _ => ⟨rfl, hh6, (by decide : 0 + 0 ≤ _), (by decide : 0 + 0 ≤ _)⟩)
  dsimp only [Pt.U, Pt.locs, Pt.cells, Pt.slots] at X11 l11 y11 z11 st11 hQ11
  subst l11 y11 z11
  obtain ⟨rfl, Nq11, hh11⟩ := hQ11
  have N12 := Fr.app N7 Nq11
  refine go _ (T11.setTop (mkF m 38 #[.val (.ref a1), .val (.int p1), .val (.int p2), .unset] [(.int (Int32.ofNat (Nat.gcd a b)))])) (st11) ?_
  refine go _ (T11.setTop (mkF m 39 #[.val (.ref a1), .val (.int p1), .val (.int p2), .val (.int (Int32.ofNat (Nat.gcd a b)))] [])) (fun t k => XS.istoreN X11.here hx rfl (hb hby d2_38) rfl (l' := #[.val (.ref a1), .val (.int p1), .val (.int p2), .val (.int (Int32.ofNat (Nat.gcd a b)))]) rfl k) ?_
  refine go _ (T11.setTop (mkF m 40 #[.val (.ref a1), .val (.int p1), .val (.int p2), .val (.int (Int32.ofNat (Nat.gcd a b)))] [(.int p1)])) (fun t k => XS.iloadN X11.here hx rfl (hb hby d2_39) rfl k) ?_
  refine go _ (T11.setTop (mkF m 41 #[.val (.ref a1), .val (.int p1), .val (.int p2), .val (.int (Int32.ofNat (Nat.gcd a b)))] [(.int (Int32.ofNat (Nat.gcd a b))), (.int p1)])) (fun t k => XS.iloadN X11.here hx rfl (hb hby d2_40) rfl k) ?_
  refine go _ (T11.setTop (mkF m 42 #[.val (.ref a1), .val (.int p1), .val (.int p2), .val (.int (Int32.ofNat (Nat.gcd a b)))] [(.int (p1 / (Int32.ofNat (Nat.gcd a b))))])) (fun t k => XS.idiv X11.here hx rfl (hb hby d2_41) rfl (own_gnz hB h1) k) ?_
  refine go _ (T11.setTop (mkF m 43 #[.val (.ref a1), .val (.int (p1 / (Int32.ofNat (Nat.gcd a b)))), .val (.int p2), .val (.int (Int32.ofNat (Nat.gcd a b)))] [])) (fun t k => XS.istoreN X11.here hx rfl (hb hby d2_42) rfl (l' := #[.val (.ref a1), .val (.int (p1 / (Int32.ofNat (Nat.gcd a b)))), .val (.int p2), .val (.int (Int32.ofNat (Nat.gcd a b)))]) rfl k) ?_
  refine go _ (T11.setTop (mkF m 44 #[.val (.ref a1), .val (.int (p1 / (Int32.ofNat (Nat.gcd a b)))), .val (.int p2), .val (.int (Int32.ofNat (Nat.gcd a b)))] [(.int p2)])) (fun t k => XS.iloadN X11.here hx rfl (hb hby d2_43) rfl k) ?_
  refine go _ (T11.setTop (mkF m 45 #[.val (.ref a1), .val (.int (p1 / (Int32.ofNat (Nat.gcd a b)))), .val (.int p2), .val (.int (Int32.ofNat (Nat.gcd a b)))] [(.int (Int32.ofNat (Nat.gcd a b))), (.int p2)])) (fun t k => XS.iloadN X11.here hx rfl (hb hby d2_44) rfl k) ?_
  refine go _ (T11.setTop (mkF m 46 #[.val (.ref a1), .val (.int (p1 / (Int32.ofNat (Nat.gcd a b)))), .val (.int p2), .val (.int (Int32.ofNat (Nat.gcd a b)))] [(.int (p2 / (Int32.ofNat (Nat.gcd a b))))])) (fun t k => XS.idiv X11.here hx rfl (hb hby d2_45) rfl (own_gnz hB h1) k) ?_
  refine go _ (T11.setTop (mkF m 47 #[.val (.ref a1), .val (.int (p1 / (Int32.ofNat (Nat.gcd a b)))), .val (.int (p2 / (Int32.ofNat (Nat.gcd a b)))), .val (.int (Int32.ofNat (Nat.gcd a b)))] [])) (fun t k => XS.istoreN X11.here hx rfl (hb hby d2_46) rfl (l' := #[.val (.ref a1), .val (.int (p1 / (Int32.ofNat (Nat.gcd a b)))), .val (.int (p2 / (Int32.ofNat (Nat.gcd a b)))), .val (.int (Int32.ofNat (Nat.gcd a b)))]) rfl k) ?_
  refine go _ (T11.setTop (mkF m 48 #[.val (.ref a1), .val (.int (p1 / (Int32.ofNat (Nat.gcd a b)))), .val (.int (p2 / (Int32.ofNat (Nat.gcd a b)))), .val (.int (Int32.ofNat (Nat.gcd a b)))] [(.ref a1)])) (fun t k => XS.aloadN X11.here hx rfl (hb hby d2_47) rfl rfl k) ?_
  refine go _ (T11.setTop (mkF m 49 #[.val (.ref a1), .val (.int (p1 / (Int32.ofNat (Nat.gcd a b)))), .val (.int (p2 / (Int32.ofNat (Nat.gcd a b)))), .val (.int (Int32.ofNat (Nat.gcd a b)))] [(.int (p1 / (Int32.ofNat (Nat.gcd a b)))), (.ref a1)])) (fun t k => XS.iloadN X11.here hx rfl (hb hby d2_48) rfl k) ?_
  obtain ⟨T13, h13, X13, e13, W13, st13⟩ := putF X11 hx hZ hown (host := "") (Or.inl (hw _ (List.mem_of_getElem? (i := 23) rfl))) Via.refl hh11 F0 E0 (Or.inr ⟨(hw _ (List.mem_of_getElem? (i := 24) rfl)), rfl, hnm⟩) (hw _ (List.mem_of_getElem? (i := 7) rfl)) (ty := .int) (by decide) rfl rfl (g := (mkF m 49 #[.val (.ref a1), .val (.int (p1 / (Int32.ofNat (Nat.gcd a b)))), .val (.int (p2 / (Int32.ofNat (Nat.gcd a b)))), .val (.int (Int32.ofNat (Nat.gcd a b)))] [(.int (p1 / (Int32.ofNat (Nat.gcd a b)))), (.ref a1)])) rfl rfl (hb hby d2_49)
  have Fw13 := F0.same W13
  have B14 := E0.wr W13
  have F15 := F1.other W13 (Or.inr (slot_ne (Or.inr (hw _ (List.mem_of_getElem? (i := 26) rfl))) (Or.inr (hw _ (List.mem_of_getElem? (i := 24) rfl))) (by decide) (t := .int) (t' := .int) (by decide) (by decide)))
  have Z16 : n0 ≤ h13.size := by rw [W13.size]; exact Z0
  have N17 := Fr.snoc X13 N12 g0
  have K18 := K0.wr W13 (Or.inl (by simp))
  refine go _ (T13.setTop (mkF m 52 #[.val (.ref a1), .val (.int (p1 / (Int32.ofNat (Nat.gcd a b)))), .val (.int (p2 / (Int32.ofNat (Nat.gcd a b)))), .val (.int (Int32.ofNat (Nat.gcd a b)))] [])) (st13) ?_
  refine go _ (T13.setTop (mkF m 53 #[.val (.ref a1), .val (.int (p1 / (Int32.ofNat (Nat.gcd a b)))), .val (.int (p2 / (Int32.ofNat (Nat.gcd a b)))), .val (.int (Int32.ofNat (Nat.gcd a b)))] [(.ref a1)])) (fun t k => XS.aloadN X13.here hx rfl (hb hby d2_52) rfl rfl k) ?_
  refine go _ (T13.setTop (mkF m 54 #[.val (.ref a1), .val (.int (p1 / (Int32.ofNat (Nat.gcd a b)))), .val (.int (p2 / (Int32.ofNat (Nat.gcd a b)))), .val (.int (Int32.ofNat (Nat.gcd a b)))] [(.int (p2 / (Int32.ofNat (Nat.gcd a b)))), (.ref a1)])) (fun t k => XS.iloadN X13.here hx rfl (hb hby d2_53) rfl k) ?_
  obtain ⟨T19, h19, X19, e19, W19, st19⟩ := putF X13 hx hZ hown (host := "") (Or.inl (hw _ (List.mem_of_getElem? (i := 25) rfl))) Via.refl e13 F15 B14 (Or.inr ⟨(hw _ (List.mem_of_getElem? (i := 26) rfl)), rfl, hnm⟩) (hw _ (List.mem_of_getElem? (i := 7) rfl)) (ty := .int) (by decide) rfl rfl (g := (mkF m 54 #[.val (.ref a1), .val (.int (p1 / (Int32.ofNat (Nat.gcd a b)))), .val (.int (p2 / (Int32.ofNat (Nat.gcd a b)))), .val (.int (Int32.ofNat (Nat.gcd a b)))] [(.int (p2 / (Int32.ofNat (Nat.gcd a b)))), (.ref a1)])) rfl rfl (hb hby d2_54)
  have Fw19 := F15.same W19
  have B20 := B14.wr W19
  have F21 := Fw13.other W19 (Or.inr (slot_ne (Or.inr (hw _ (List.mem_of_getElem? (i := 24) rfl))) (Or.inr (hw _ (List.mem_of_getElem? (i := 26) rfl))) (by decide) (t := .int) (t' := .int) (by decide) (by decide)))
  have Z22 : n0 ≤ h19.size := by rw [W19.size]; exact Z16
  have N23 := Fr.snoc X19 N17 g0
  have K24 := K18.wr W19 (Or.inl (by simp))
  refine go _ (T19.setTop (mkF m 57 #[.val (.ref a1), .val (.int (p1 / (Int32.ofNat (Nat.gcd a b)))), .val (.int (p2 / (Int32.ofNat (Nat.gcd a b)))), .val (.int (Int32.ofNat (Nat.gcd a b)))] [])) (st19) ?_
  exact fin none X19 (by decide) (by decide) (fun _ => rfl) (show Q_rm2 Z a1 p1 p2 a b h0 n0 _ T19.heap _ from (by rw [e19]; exact ⟨rfl, N23, K24, B20, F21, Fw19⟩)) (fun fs hr => X19.returnOut hx hret (hb hby d2_57) hr)
theorem d6_0 : decode prog_13_method_2_code 0 = .ok (.ldc2_w 29, 3) := by decide +kernel
theorem d6_3 : decode prog_13_method_2_code 3 = .ok (.aload_n 0, 1) := by decide +kernel
theorem d6_4 : decode prog_13_method_2_code 4 = .ok (.getfield 22, 3) := by decide +kernel
theorem d6_7 : decode prog_13_method_2_code 7 = .ok (.i2l, 1) := by decide +kernel
theorem d6_8 : decode prog_13_method_2_code 8 = .ok (.lmul, 1) := by decide +kernel
theorem d6_9 : decode prog_13_method_2_code 9 = .ok (.iload_n 1, 1) := by decide +kernel
theorem d6_10 : decode prog_13_method_2_code 10 = .ok (.i2l, 1) := by decide +kernel
theorem d6_11 : decode prog_13_method_2_code 11 = .ok (.aload_n 0, 1) := by decide +kernel
theorem d6_12 : decode prog_13_method_2_code 12 = .ok (.getfield 26, 3) := by decide +kernel
theorem d6_15 : decode prog_13_method_2_code 15 = .ok (.i2l, 1) := by decide +kernel
theorem d6_16 : decode prog_13_method_2_code 16 = .ok (.lmul, 1) := by decide +kernel
theorem d6_17 : decode prog_13_method_2_code 17 = .ok (.lcmp, 1) := by decide +kernel
theorem d6_18 : decode prog_13_method_2_code 18 = .ok (.ifCond .lt 7, 3) := by decide +kernel
theorem d6_21 : decode prog_13_method_2_code 21 = .ok (.iconst 1, 1) := by decide +kernel
theorem d6_22 : decode prog_13_method_2_code 22 = .ok (.goto 4, 3) := by decide +kernel
theorem d6_25 : decode prog_13_method_2_code 25 = .ok (.iconst 0, 1) := by decide +kernel
theorem d6_26 : decode prog_13_method_2_code 26 = .ok (.ireturn, 1) := by decide +kernel
theorem ef_rm6 (m : MethodId) (a1 : Addr) (p1 : Int32) : entryFrame m #[(.ref a1), (.int p1)] 2 = mkF m 0 #[.val (.ref a1), .val (.int p1)] [] := by first | (simp [entryFrame, mkF, argsToLocals, Value.category]; done) | rfl
def own_al (y1 y2 p1 : Int32) : Int32 := (if ((100 : Int64) * (y1.toInt64)) < ((p1.toInt64) * (y2.toInt64)) then (0 : Int32) else (1 : Int32))
def Q_rm6 (Z : State) (a1 : Addr) (p1 : Int32) (y1 : Int32) (y2 : Int32) (h0 : Heap) (n0 : Nat) (v : Option Value) (h : Heap) (L : List Loc) : Prop := v = some (.int (own_al y1 y2 p1)) ∧ Fr n0 L ∧ h = h0
set_option maxRecDepth 65536 in
set_option maxHeartbeats 40000000 in
theorem rm6 (l : Launch) (Z : State) (a0 : Array Value) (hw : ∀ d ∈ tables_1, d.before a0 Z = true) (ws : List Jvm.Cond) (a1 : Addr) (p1 : Int32) (y1 : Int32) (y2 : Int32) (h0 : Heap) (n0 : Nat) (Z0 : n0 ≤ h0.size) (F0 : Fld Z h0 a1 "com/example/bipartite_map/bipartitemap/cluster/Similarity" "shared" "I" (.int y1)) (F1 : Fld Z h0 a1 "com/example/bipartite_map/bipartitemap/cluster/Similarity" "either" "I" (.int y2)) :
    MetFree l (⟨"com/example/bipartite_map/bipartitemap/cluster/Similarity", "atLeast", "(I)Z"⟩ : MethodName) (head1 (Jvm.Cond.code (⟨"com/example/bipartite_map/bipartitemap/cluster/Similarity", "atLeast", "(I)Z"⟩ : MethodName) prog_13_method_2_code 2 (some .boolean) :: ws) ({ frames := 0, cells := 0, slots := 0, locals := 0 } : Room)) (fun a U => a = #[(.ref a1), (.int p1)] ∧ Z.Warmed39 U.vm ∧ U.heap = h0) (fun _ _ _ _ _ => True) (fun _ U o U' => ∃ v L, o = .returned v ∧ Q_rm6 Z a1 p1 y1 y2 h0 n0 v U'.heap L ∧ FrameEnd U o U' L ({ frames := 0, cells := 0, slots := 0, locals := 0 } : Room).cells ({ frames := 0, cells := 0, slots := 0, locals := 0 } : Room).slots) := by
  refine own_body (Q := Q_rm6 Z a1 p1 y1 y2 h0 n0) (plainFor_of_name pn_10) ?_
  intro p e s m below meth c s₁ K go fin X0 hx hby hml hown hnm hret hZ e0
  have hown : s.vm.findClass "com/example/bipartite_map/bipartitemap/cluster/Similarity" = some m.cls := hown
  have N0 := Fr.nil n0
  refine go _ (s₁.setTop (mkF m 0 #[.val (.ref a1), .val (.int p1)] [])) (fun t k => castTop (ef_rm6 m a1 p1) k) ?_
  refine go _ (s₁.setTop (mkF m 3 #[.val (.ref a1), .val (.int p1)] [(.long (100 : Int64))])) (X0.ldc2Long hx hown (mvT hZ (hw _ (List.mem_of_getElem? (i := 33) rfl))) (g := (mkF m 0 #[.val (.ref a1), .val (.int p1)] [])) rfl (hb hby d6_0)) ?_
  refine go _ (s₁.setTop (mkF m 4 #[.val (.ref a1), .val (.int p1)] [(.ref a1), (.long (100 : Int64))])) (fun t k => XS.aloadN X0.here hx rfl (hb hby d6_3) rfl rfl k) ?_
  obtain ⟨T25, X25, e25, st25⟩ := getF X0 hx hZ hown (host := "") (Or.inl (hw _ (List.mem_of_getElem? (i := 23) rfl))) Via.refl e0 F0 (g := (mkF m 4 #[.val (.ref a1), .val (.int p1)] [(.ref a1), (.long (100 : Int64))])) rfl rfl (hb hby d6_4)
  refine go _ (T25.setTop (mkF m 7 #[.val (.ref a1), .val (.int p1)] [(.int y1), (.long (100 : Int64))])) (st25) ?_
  refine go _ (T25.setTop (mkF m 8 #[.val (.ref a1), .val (.int p1)] [(.long (y1.toInt64)), (.long (100 : Int64))])) (fun t k => XS.i2l X25.here hx rfl (hb hby d6_7) rfl k) ?_
  refine go _ (T25.setTop (mkF m 9 #[.val (.ref a1), .val (.int p1)] [(.long ((100 : Int64) * (y1.toInt64)))])) (fun t k => XS.lmul X25.here hx rfl (hb hby d6_8) rfl k) ?_
  refine go _ (T25.setTop (mkF m 10 #[.val (.ref a1), .val (.int p1)] [(.int p1), (.long ((100 : Int64) * (y1.toInt64)))])) (fun t k => XS.iloadN X25.here hx rfl (hb hby d6_9) rfl k) ?_
  refine go _ (T25.setTop (mkF m 11 #[.val (.ref a1), .val (.int p1)] [(.long (p1.toInt64)), (.long ((100 : Int64) * (y1.toInt64)))])) (fun t k => XS.i2l X25.here hx rfl (hb hby d6_10) rfl k) ?_
  refine go _ (T25.setTop (mkF m 12 #[.val (.ref a1), .val (.int p1)] [(.ref a1), (.long (p1.toInt64)), (.long ((100 : Int64) * (y1.toInt64)))])) (fun t k => XS.aloadN X25.here hx rfl (hb hby d6_11) rfl rfl k) ?_
  obtain ⟨T26, X26, e26, st26⟩ := getF X25 hx hZ hown (host := "") (Or.inl (hw _ (List.mem_of_getElem? (i := 25) rfl))) Via.refl e25 F1 (g := (mkF m 12 #[.val (.ref a1), .val (.int p1)] [(.ref a1), (.long (p1.toInt64)), (.long ((100 : Int64) * (y1.toInt64)))])) rfl rfl (hb hby d6_12)
  refine go _ (T26.setTop (mkF m 15 #[.val (.ref a1), .val (.int p1)] [(.int y2), (.long (p1.toInt64)), (.long ((100 : Int64) * (y1.toInt64)))])) (st26) ?_
  refine go _ (T26.setTop (mkF m 16 #[.val (.ref a1), .val (.int p1)] [(.long (y2.toInt64)), (.long (p1.toInt64)), (.long ((100 : Int64) * (y1.toInt64)))])) (fun t k => XS.i2l X26.here hx rfl (hb hby d6_15) rfl k) ?_
  refine go _ (T26.setTop (mkF m 17 #[.val (.ref a1), .val (.int p1)] [(.long ((p1.toInt64) * (y2.toInt64))), (.long ((100 : Int64) * (y1.toInt64)))])) (fun t k => XS.lmul X26.here hx rfl (hb hby d6_16) rfl k) ?_
  refine go _ (T26.setTop (mkF m 18 #[.val (.ref a1), .val (.int p1)] [(.int (lcmpW ((100 : Int64) * (y1.toInt64)) ((p1.toInt64) * (y2.toInt64))))])) (fun t k => XS.lcmp X26.here hx rfl (hb hby d6_17) rfl k) ?_
  by_cases hc27 : ((100 : Int64) * (y1.toInt64)) < ((p1.toInt64) * (y2.toInt64))
  · refine go _ (T26.setTop (mkF m 25 #[.val (.ref a1), .val (.int p1)] [])) (fun t k => XS.ifYes X26.here hx rfl (pc0 := 18) (pc' := 25) rfl (hb hby d6_18) rfl ((if0 _ _).trans (tlt ((lw_lt ((100 : Int64) * (y1.toInt64)) ((p1.toInt64) * (y2.toInt64))).mpr hc27)).1) (by decide) (by decide) k) ?_
    refine go _ (T26.setTop (mkF m 26 #[.val (.ref a1), .val (.int p1)] [(.int (0 : Int32))])) (fun t k => XS.iconst X26.here hx rfl (hb hby d6_25) k) ?_
    exact fin (some (.int (0 : Int32))) X26 (by decide) (by decide) (fun q => by cases q) (show Q_rm6 Z a1 p1 y1 y2 h0 n0 _ T26.heap _ from (by rw [e26]; exact ⟨congrArg some (congrArg Value.int (show (0 : Int32) = (own_al y1 y2 p1) from (show (own_al y1 y2 p1) = (0 : Int32) from (by unfold own_al; rw [if_pos hc27])).symm)), N0, rfl⟩)) (fun fs hr => retN X26 hx (t := .boolean) hret (by simp) (hb hby d6_26) hr)
  · refine go _ (T26.setTop (mkF m 21 #[.val (.ref a1), .val (.int p1)] [])) (fun t k => XS.ifNo X26.here hx rfl (hb hby d6_18) rfl ((if0 _ _).trans (flt (fun q => hc27 ((lw_lt ((100 : Int64) * (y1.toInt64)) ((p1.toInt64) * (y2.toInt64))).mp q))).1) k) ?_
    refine go _ (T26.setTop (mkF m 22 #[.val (.ref a1), .val (.int p1)] [(.int (1 : Int32))])) (fun t k => XS.iconst X26.here hx rfl (hb hby d6_21) k) ?_
    refine go _ (T26.setTop (mkF m 26 #[.val (.ref a1), .val (.int p1)] [(.int (1 : Int32))])) (fun t k => XS.goto X26.here hx rfl (pc0 := 22) (pc' := 26) rfl (hb hby d6_22) (by decide) (by decide) k) ?_
    exact fin (some (.int (1 : Int32))) X26 (by decide) (by decide) (fun q => by cases q) (show Q_rm6 Z a1 p1 y1 y2 h0 n0 _ T26.heap _ from (by rw [e26]; exact ⟨congrArg some (congrArg Value.int (show (1 : Int32) = (own_al y1 y2 p1) from (show (own_al y1 y2 p1) = (1 : Int32) from (by unfold own_al; rw [if_neg hc27])).symm)), N0, rfl⟩)) (fun fs hr => retN X26 hx (t := .boolean) hret (by simp) (hb hby d6_26) hr)
theorem pn_14 : plainName "com/example/bipartite_map/bipartitemap/cluster/SimilarityAtLeastPinLaw" = true := by first | (simp [plainName, overriddenIn]; done) | decide +kernel
theorem ef_rm0 (m : MethodId) (p1 : Int32) (p2 : Int32) (p3 : Int32) : entryFrame m #[(.int p1), (.int p2), (.int p3)] maxLocals = mkF m 0 #[.val (.int p1), .val (.int p2), .val (.int p3), .unset, .unset, .unset, .unset, .unset, .unset, .unset, .unset, .unset] [] := by first | (simp [entryFrame, mkF, argsToLocals, Value.category, maxLocals]; done) | rfl
def v_rm0_0 (p2 : Int32) : Int32 := (f_rm1 (1 : Int32) (p2 &&& (2147483647 : Int32)))
def v_rm0_1 (p1 : Int32) (p2 : Int32) : Int32 := ((((p1.toInt64) &&& (2147483647 : Int64)) % (((v_rm0_0 p2).toInt64) + (1 : Int64))).toInt32)
def v_rm0_2 (p1 : Int32) (p2 : Int32) : Int64 := (((100 : Int64) * ((v_rm0_1 p1 p2).toInt64)) / ((v_rm0_0 p2).toInt64))
def v_rm0_3 (a : Nat) (b : Nat) (p3 : Int32) (p1 : Int32) (p2 : Int32) : Int32 := (own_al ((v_rm0_1 p1 p2) / (Int32.ofNat (Nat.gcd a b))) ((v_rm0_0 p2) / (Int32.ofNat (Nat.gcd a b))) p3)
def v_rm0_4 (a : Nat) (b : Nat) (p1 : Int32) (p2 : Int32) : Int32 := (own_al ((v_rm0_1 p1 p2) / (Int32.ofNat (Nat.gcd a b))) ((v_rm0_0 p2) / (Int32.ofNat (Nat.gcd a b))) ((v_rm0_2 p1 p2).toInt32))
def v_rm0_5 (a : Nat) (b : Nat) (p1 : Int32) (p2 : Int32) : Int32 := (own_al ((v_rm0_1 p1 p2) / (Int32.ofNat (Nat.gcd a b))) ((v_rm0_0 p2) / (Int32.ofNat (Nat.gcd a b))) (((v_rm0_2 p1 p2).toInt32) + (1 : Int32)))
def v_rm0_6 (a : Nat) (b : Nat) (p3 : Int32) (p1 : Int32) (p2 : Int32) : Int32 := (own_al ((v_rm0_1 p1 p2) / (Int32.ofNat (Nat.gcd a b))) ((v_rm0_0 p2) / (Int32.ofNat (Nat.gcd a b))) p3)
def v_rm0_7 (a : Nat) (b : Nat) (p1 : Int32) (p2 : Int32) : Int32 := (own_al ((v_rm0_1 p1 p2) / (Int32.ofNat (Nat.gcd a b))) ((v_rm0_0 p2) / (Int32.ofNat (Nat.gcd a b))) ((v_rm0_2 p1 p2).toInt32))
def v_rm0_8 (a : Nat) (b : Nat) (p1 : Int32) (p2 : Int32) : Int32 := (own_al ((v_rm0_1 p1 p2) / (Int32.ofNat (Nat.gcd a b))) ((v_rm0_0 p2) / (Int32.ofNat (Nat.gcd a b))) (((v_rm0_2 p1 p2).toInt32) + (1 : Int32)))
theorem own_lmod (x y : Int64) (hx : 0 ≤ x.toInt) : (x % y).toInt = x.toInt % y.toInt := by
  rw [Int64.toInt_mod]; exact Int.tmod_eq_emod_of_nonneg hx
theorem own_E (p2 : Int32) : 1 ≤ (v_rm0_0 p2).toInt := by
  have m := c_mask p2 2147483647 31 (by decide) (by decide +kernel)
  have e1 : (1 : Int32).toInt = 1 := by decide
  unfold v_rm0_0 f_rm1
  split
  · rename_i h
    rw [Int32.lt_iff_toInt_lt] at h
    omega
  · omega
theorem own_S (p1 p2 : Int32) : 0 ≤ (v_rm0_1 p1 p2).toInt ∧ (v_rm0_1 p1 p2).toInt ≤ (v_rm0_0 p2).toInt := by
  have hE := own_E p2
  have rE := rng32 (v_rm0_0 p2)
  have m := c_maskL (p1.toInt64) 2147483647 31 (by decide) (by decide +kernel)
  have i := c_i2l (v_rm0_0 p2)
  have e1 : (1 : Int64).toInt = 1 := by decide
  have a := c_ladd ((v_rm0_0 p2).toInt64) 1
  have r := rng64 ((v_rm0_0 p2).toInt64 + 1)
  have q := own_lmod ((p1.toInt64) &&& (2147483647 : Int64)) (((v_rm0_0 p2).toInt64) + (1 : Int64)) (by omega)
  have hd : (((v_rm0_0 p2).toInt64) + (1 : Int64)).toInt = (v_rm0_0 p2).toInt + 1 := by omega
  rw [hd] at q
  have q0 := Int.emod_nonneg ((p1.toInt64) &&& (2147483647 : Int64)).toInt (show (v_rm0_0 p2).toInt + 1 ≠ 0 by omega)
  have q1 := Int.emod_lt_of_pos ((p1.toInt64) &&& (2147483647 : Int64)).toInt (show 0 < (v_rm0_0 p2).toInt + 1 by omega)
  rw [← q] at q0 q1
  have l := c_l2i (((p1.toInt64) &&& (2147483647 : Int64)) % (((v_rm0_0 p2).toInt64) + (1 : Int64)))
  have rl := rng32 ((((p1.toInt64) &&& (2147483647 : Int64)) % (((v_rm0_0 p2).toInt64) + (1 : Int64))).toInt32)
  unfold v_rm0_1
  omega
theorem own_ab (p1 p2 : Int32) : ∃ a b : Nat, (v_rm0_1 p1 p2).toInt = (a : Int) ∧ (v_rm0_0 p2).toInt = (b : Int) ∧ 1 ≤ b ∧ a ≤ b := by
  have hE := own_E p2
  have hS := own_S p1 p2
  exact ⟨(v_rm0_1 p1 p2).toInt.toNat, (v_rm0_0 p2).toInt.toNat, by omega, by omega, by omega, by omega⟩
theorem own_d1 {p2 : Int32} {b : Nat} (hb : (v_rm0_0 p2).toInt = (b : Int)) (h1 : 1 ≤ b) : (((v_rm0_0 p2).toInt64) + (1 : Int64)) ≠ 0 := fun z => by
  have i := c_i2l (v_rm0_0 p2)
  have rE := rng32 (v_rm0_0 p2)
  have a := c_ladd ((v_rm0_0 p2).toInt64) 1
  have e1 : (1 : Int64).toInt = 1 := by decide
  rw [z, show (0 : Int64).toInt = 0 from by decide] at a
  omega
theorem own_d2 {p2 : Int32} {b : Nat} (hb : (v_rm0_0 p2).toInt = (b : Int)) (h1 : 1 ≤ b) : ((v_rm0_0 p2).toInt64) ≠ 0 := fun z => by
  have i := c_i2l (v_rm0_0 p2)
  rw [z, show (0 : Int64).toInt = 0 from by decide] at i
  omega
theorem own_idiv {x y : Int32} {a g : Nat} (hx : x.toInt = (a : Int)) (hy : y.toInt = (g : Int)) : (x / y).toInt = ((a / g : Nat) : Int) := by
  have h : y ≠ -1 := fun z => by rw [z, show (-1 : Int32).toInt = -1 from by decide] at hy; omega
  rw [Int32.toInt_div_of_ne_right x y h, hx, hy]; rfl
theorem own_q {p1 p2 : Int32} {a b : Nat} (ha : (v_rm0_1 p1 p2).toInt = (a : Int)) (hb : (v_rm0_0 p2).toInt = (b : Int)) (h1 : 1 ≤ b) (hab : a ≤ b) : (v_rm0_2 p1 p2).toInt = 100 * (a : Int) / (b : Int) := by
  have i1 := c_i2l (v_rm0_1 p1 p2)
  have i2 := c_i2l (v_rm0_0 p2)
  have rE := rng32 (v_rm0_0 p2)
  have m := c_lmul 100 ((v_rm0_1 p1 p2).toInt64)
  have r := rng64 ((100 : Int64) * ((v_rm0_1 p1 p2).toInt64))
  have e : (100 : Int64).toInt = 100 := by decide
  rw [e, i1, ha] at m
  have hm : ((100 : Int64) * ((v_rm0_1 p1 p2).toInt64)).toInt = 100 * (a : Int) := by omega
  have hn : ((v_rm0_0 p2).toInt64) ≠ -1 := fun z => by
    rw [z, show (-1 : Int64).toInt = -1 from by decide] at i2; omega
  have d := (c_ldiv ((100 : Int64) * ((v_rm0_1 p1 p2).toInt64)) ((v_rm0_0 p2).toInt64) _ rfl hn).1 (by omega)
  unfold v_rm0_2
  rw [d, hm, i2, hb]
theorem own_core {p1 p2 : Int32} {a b : Nat} (ha : (v_rm0_1 p1 p2).toInt = (a : Int)) (hb : (v_rm0_0 p2).toInt = (b : Int)) (h1 : 1 ≤ b) (hab : a ≤ b) (t : Int32) :
    (((100 : Int64) * (((v_rm0_1 p1 p2) / (Int32.ofNat (Nat.gcd a b))).toInt64)) < ((t.toInt64) * (((v_rm0_0 p2) / (Int32.ofNat (Nat.gcd a b))).toInt64))) ↔ 100 * (a : Int) < t.toInt * (b : Int) := by
  have hg := own_gint (a := a) hb h1
  have gp := own_gpos (a := a) h1
  have x1 := own_idiv ha hg
  have x2 := own_idiv hb hg
  have da : a / Nat.gcd a b * Nat.gcd a b = a := Nat.div_mul_cancel (Nat.gcd_dvd_left a b)
  have db : b / Nat.gcd a b * Nat.gcd a b = b := Nat.div_mul_cancel (Nat.gcd_dvd_right a b)
  have la : a / Nat.gcd a b ≤ a := Nat.div_le_self _ _
  have lb : b / Nat.gcd a b ≤ b := Nat.div_le_self _ _
  have rE := rng32 (v_rm0_0 p2)
  have rt := rng32 t
  generalize Nat.gcd a b = g at *
  generalize a / g = u at *
  generalize b / g = w at *
  have i1 := c_i2l ((v_rm0_1 p1 p2) / (Int32.ofNat g))
  have i2 := c_i2l ((v_rm0_0 p2) / (Int32.ofNat g))
  have i3 := c_i2l t
  have m1 := c_lmul 100 (((v_rm0_1 p1 p2) / (Int32.ofNat g)).toInt64)
  have m2 := c_lmul (t.toInt64) (((v_rm0_0 p2) / (Int32.ofNat g)).toInt64)
  have r1 := rng64 ((100 : Int64) * (((v_rm0_1 p1 p2) / (Int32.ofNat g)).toInt64))
  have r2 := rng64 ((t.toInt64) * (((v_rm0_0 p2) / (Int32.ofNat g)).toInt64))
  have e : (100 : Int64).toInt = 100 := by decide
  rw [e, i1, x1] at m1
  rw [i3, i2, x2] at m2
  have bd := mc (a := t.toInt) (b := (w : Int)) (l1 := -2147483648) (h1 := 2147483647) (l2 := 0) (h2 := 2147483647) rt.1 (by omega) (by omega) (by omega)
  have hm1 : ((100 : Int64) * (((v_rm0_1 p1 p2) / (Int32.ofNat g)).toInt64)).toInt = 100 * (u : Int) := by omega
  have hm2 : ((t.toInt64) * (((v_rm0_0 p2) / (Int32.ofNat g)).toInt64)).toInt = t.toInt * (w : Int) := by omega
  rw [Int64.lt_iff_toInt_lt, hm1, hm2]
  have ea : (a : Int) = (u : Int) * (g : Int) := by rw [← Int.natCast_mul, da]
  have eb : (b : Int) = (w : Int) * (g : Int) := by rw [← Int.natCast_mul, db]
  rw [ea, eb, ← Int.mul_assoc, ← Int.mul_assoc]
  have gp' : (0 : Int) < (g : Int) := by omega
  exact ⟨fun h => Int.mul_lt_mul_of_pos_right h gp', fun h => Int.lt_of_mul_lt_mul_right h (Int.le_of_lt gp')⟩
theorem own_lt {x b t : Int} (hb : 0 < b) : x / b < t ↔ x < t * b := Int.ediv_lt_iff_lt_mul hb
theorem own_o0 {p1 p2 p3 : Int32} {a b : Nat} (ha : (v_rm0_1 p1 p2).toInt = (a : Int)) (hb : (v_rm0_0 p2).toInt = (b : Int)) (h1 : 1 ≤ b) (hab : a ≤ b) (h : v_rm0_2 p1 p2 < p3.toInt64) : own_al ((v_rm0_1 p1 p2) / (Int32.ofNat (Nat.gcd a b))) ((v_rm0_0 p2) / (Int32.ofNat (Nat.gcd a b))) p3 = (0 : Int32) := by
  rw [Int64.lt_iff_toInt_lt, own_q ha hb h1 hab, c_i2l, own_lt (by omega)] at h
  unfold own_al
  rw [if_pos ((own_core ha hb h1 hab p3).mpr h)]
theorem own_o1 {p1 p2 p3 : Int32} {a b : Nat} (ha : (v_rm0_1 p1 p2).toInt = (a : Int)) (hb : (v_rm0_0 p2).toInt = (b : Int)) (h1 : 1 ≤ b) (hab : a ≤ b) (h : ¬ (v_rm0_2 p1 p2 < p3.toInt64)) : own_al ((v_rm0_1 p1 p2) / (Int32.ofNat (Nat.gcd a b))) ((v_rm0_0 p2) / (Int32.ofNat (Nat.gcd a b))) p3 = (1 : Int32) := by
  rw [Int64.lt_iff_toInt_lt, own_q ha hb h1 hab, c_i2l, own_lt (by omega)] at h
  unfold own_al
  rw [if_neg fun z => h ((own_core ha hb h1 hab p3).mp z)]
theorem own_qi {p1 p2 : Int32} {a b : Nat} (ha : (v_rm0_1 p1 p2).toInt = (a : Int)) (hb : (v_rm0_0 p2).toInt = (b : Int)) (h1 : 1 ≤ b) (hab : a ≤ b) : (v_rm0_2 p1 p2).toInt32.toInt = 100 * (a : Int) / (b : Int) ∧ (v_rm0_2 p1 p2).toInt32.toInt ≤ 100 ∧ 0 ≤ (v_rm0_2 p1 p2).toInt32.toInt := by
  have q := own_q ha hb h1 hab
  have l := c_l2i (v_rm0_2 p1 p2)
  have r := rng32 (v_rm0_2 p1 p2).toInt32
  have u : 100 * (a : Int) / (b : Int) < 101 := (own_lt (by omega)).mpr (by omega)
  have w : 0 ≤ 100 * (a : Int) / (b : Int) := Int.ediv_nonneg (by omega) (by omega)
  omega
theorem own_o2 {p1 p2 : Int32} {a b : Nat} (ha : (v_rm0_1 p1 p2).toInt = (a : Int)) (hb : (v_rm0_0 p2).toInt = (b : Int)) (h1 : 1 ≤ b) (hab : a ≤ b) : ¬ (own_al ((v_rm0_1 p1 p2) / (Int32.ofNat (Nat.gcd a b))) ((v_rm0_0 p2) / (Int32.ofNat (Nat.gcd a b))) ((v_rm0_2 p1 p2).toInt32) = (0 : Int32)) := by
  have q := own_qi ha hb h1 hab
  have n : ¬ (100 * (a : Int) < (v_rm0_2 p1 p2).toInt32.toInt * (b : Int)) := by
    rw [q.1]
    have := Int.ediv_mul_le (100 * (a : Int)) (b := (b : Int)) (by omega)
    omega
  unfold own_al
  rw [if_neg fun z => n ((own_core ha hb h1 hab _).mp z)]
  decide
theorem own_o3 {p1 p2 : Int32} {a b : Nat} (ha : (v_rm0_1 p1 p2).toInt = (a : Int)) (hb : (v_rm0_0 p2).toInt = (b : Int)) (h1 : 1 ≤ b) (hab : a ≤ b) : own_al ((v_rm0_1 p1 p2) / (Int32.ofNat (Nat.gcd a b))) ((v_rm0_0 p2) / (Int32.ofNat (Nat.gcd a b))) (((v_rm0_2 p1 p2).toInt32) + (1 : Int32)) = (0 : Int32) := by
  have q := own_qi ha hb h1 hab
  have s := c_iadd ((v_rm0_2 p1 p2).toInt32) 1
  have r := rng32 ((v_rm0_2 p1 p2).toInt32 + 1)
  have e1 : (1 : Int32).toInt = 1 := by decide
  have t : ((v_rm0_2 p1 p2).toInt32 + 1).toInt = 100 * (a : Int) / (b : Int) + 1 := by omega
  have y : 100 * (a : Int) < ((v_rm0_2 p1 p2).toInt32 + 1).toInt * (b : Int) := by
    rw [t]
    exact (own_lt (by omega)).mp (by omega)
  unfold own_al
  rw [if_pos ((own_core ha hb h1 hab _).mpr y)]
def Q_rm0 (Z : State) (p1 : Int32) (p2 : Int32) (p3 : Int32) (h0 : Heap) (n0 : Nat) (v : Option Value) (h : Heap) (L : List Loc) : Prop := v = some (.int (1 : Int32)) ∧ Fr n0 L
set_option maxRecDepth 65536 in
set_option maxHeartbeats 40000000 in
theorem rm0 (l : Launch) (Z : State) (a0 : Array Value) (hw : ∀ d ∈ tables_1, d.before a0 Z = true) (ws : List Jvm.Cond) (p1 : Int32) (p2 : Int32) (p3 : Int32) (h0 : Heap) (n0 : Nat) (Z0 : n0 ≤ h0.size)  :
    MetFree l x (head1 (Jvm.Cond.code x code maxLocals ret :: ws) room_1) (fun a U => a = #[(.int p1), (.int p2), (.int p3)] ∧ Z.Warmed39 U.vm ∧ U.heap = h0) (fun _ _ _ _ _ => True) (fun _ U o U' => ∃ v L, o = .returned v ∧ Q_rm0 Z p1 p2 p3 h0 n0 v U'.heap L ∧ FrameEnd U o U' L room_1.cells room_1.slots) := by
  refine own_body (Q := Q_rm0 Z p1 p2 p3 h0 n0) (plainFor_of_name pn_14) ?_
  intro p e s m below meth c s₁ K go fin X0 hx hby hml hown hnm hret hZ e0
  have hown : s.vm.findClass "com/example/bipartite_map/bipartitemap/cluster/SimilarityAtLeastPinLaw" = some m.cls := hown
  have N0 := Fr.nil n0
  refine go _ (s₁.setTop (mkF m 0 #[.val (.int p1), .val (.int p2), .val (.int p3), .unset, .unset, .unset, .unset, .unset, .unset, .unset, .unset, .unset] [])) (fun t k => castTop (ef_rm0 m p1 p2 p3) k) ?_
  obtain ⟨a, b, ha, hB, h1, hab⟩ := own_ab p1 p2
  refine go _ (s₁.setTop (mkF m 1 #[.val (.int p1), .val (.int p2), .val (.int p3), .unset, .unset, .unset, .unset, .unset, .unset, .unset, .unset, .unset] [(.int (1 : Int32))])) (fun t k => XS.iconst X0.here hx rfl (hb hby at_0) k) ?_
  refine go _ (s₁.setTop (mkF m 2 #[.val (.int p1), .val (.int p2), .val (.int p3), .unset, .unset, .unset, .unset, .unset, .unset, .unset, .unset, .unset] [(.int p2), (.int (1 : Int32))])) (fun t k => XS.iloadN X0.here hx rfl (hb hby at_1) rfl k) ?_
  refine go _ (s₁.setTop (mkF m 4 #[.val (.int p1), .val (.int p2), .val (.int p3), .unset, .unset, .unset, .unset, .unset, .unset, .unset, .unset, .unset] [(.int (2147483647 : Int32)), (.int p2), (.int (1 : Int32))])) (X0.ldcInt hx hown (mvT hZ (hw _ (List.mem_of_getElem? (i := 0) rfl))) (g := (mkF m 2 #[.val (.int p1), .val (.int p2), .val (.int p3), .unset, .unset, .unset, .unset, .unset, .unset, .unset, .unset, .unset] [(.int p2), (.int (1 : Int32))])) rfl (hb hby at_2)) ?_
  refine go _ (s₁.setTop (mkF m 5 #[.val (.int p1), .val (.int p2), .val (.int p3), .unset, .unset, .unset, .unset, .unset, .unset, .unset, .unset, .unset] [(.int (p2 &&& (2147483647 : Int32))), (.int (1 : Int32))])) (fun t k => XS.iand X0.here hx rfl (hb hby at_4) rfl k) ?_
  obtain ⟨_, _, ⟨T28, L28, k28, n28⟩, -, X28, ⟨Lc28, hQ28, l28, y28, z28⟩, st28⟩ := Jvm.LawKit.callS X0 hx (y := (⟨"java/lang/Math", "max", "(II)I"⟩ : MethodName)) hown (mvT hZ (hw _ (List.mem_of_getElem? (i := 1) rfl))) (mvT hZ (hw _ (List.mem_of_getElem? (i := 2) rfl))) (mvT hZ (hw _ (List.mem_of_getElem? (i := 3) rfl))) (mvT hZ (hw _ (List.mem_of_getElem? (i := 4) rfl))) (by decide) (backOf (W := 0) (rm1 l Z a0 hw [] (1 : Int32) (p2 &&& (2147483647 : Int32))  h0 n0 Z0 ) hZ (hw _ (List.mem_of_getElem? (i := 4) rfl)) (hw _ (List.mem_of_getElem? (i := 3) rfl)) (by decide) (by decide)) (g := (mkF m 5 #[.val (.int p1), .val (.int p2), .val (.int p3), .unset, .unset, .unset, .unset, .unset, .unset, .unset, .unset, .unset] [(.int (p2 &&& (2147483647 : Int32))), (.int (1 : Int32))])) rfl (by rw [hml]; rfl) (argsL := [(.int (1 : Int32)), (.int (p2 &&& (2147483647 : Int32)))]) (rest := []) (lenOf pd_3 rfl) rfl (by show 2 * 0 + _ ≤ _; exact Nat.le_of_eq rfl) (hb hby at_5) (fun _ _ => ⟨rfl, e0, (by decide : 0 + 0 ≤ _), (by decide : 0 + 0 ≤ _)⟩)
  dsimp only [Pt.U, Pt.locs, Pt.cells, Pt.slots] at X28 l28 y28 z28 st28 hQ28
  subst l28 y28 z28
  obtain ⟨rfl, Nq28, hh28⟩ := hQ28
  have N29 := Fr.app N0 Nq28
  refine go _ (T28.setTop (mkF m 8 #[.val (.int p1), .val (.int p2), .val (.int p3), .unset, .unset, .unset, .unset, .unset, .unset, .unset, .unset, .unset] [(.int (f_rm1 (1 : Int32) (p2 &&& (2147483647 : Int32))))])) (st28) ?_
  refine go _ (T28.setTop (mkF m 9 #[.val (.int p1), .val (.int p2), .val (.int p3), .val (.int (v_rm0_0 p2)), .unset, .unset, .unset, .unset, .unset, .unset, .unset, .unset] [])) (fun t k => XS.istoreN X28.here hx rfl (hb hby at_8) rfl (l' := #[.val (.int p1), .val (.int p2), .val (.int p3), .val (.int (v_rm0_0 p2)), .unset, .unset, .unset, .unset, .unset, .unset, .unset, .unset]) rfl k) ?_
  refine go _ (T28.setTop (mkF m 10 #[.val (.int p1), .val (.int p2), .val (.int p3), .val (.int (v_rm0_0 p2)), .unset, .unset, .unset, .unset, .unset, .unset, .unset, .unset] [(.int p1)])) (fun t k => XS.iloadN X28.here hx rfl (hb hby at_9) rfl k) ?_
  refine go _ (T28.setTop (mkF m 11 #[.val (.int p1), .val (.int p2), .val (.int p3), .val (.int (v_rm0_0 p2)), .unset, .unset, .unset, .unset, .unset, .unset, .unset, .unset] [(.long (p1.toInt64))])) (fun t k => XS.i2l X28.here hx rfl (hb hby at_10) rfl k) ?_
  refine go _ (T28.setTop (mkF m 14 #[.val (.int p1), .val (.int p2), .val (.int p3), .val (.int (v_rm0_0 p2)), .unset, .unset, .unset, .unset, .unset, .unset, .unset, .unset] [(.long (2147483647 : Int64)), (.long (p1.toInt64))])) (X28.ldc2Long hx hown (mvT hZ (hw _ (List.mem_of_getElem? (i := 5) rfl))) (g := (mkF m 11 #[.val (.int p1), .val (.int p2), .val (.int p3), .val (.int (v_rm0_0 p2)), .unset, .unset, .unset, .unset, .unset, .unset, .unset, .unset] [(.long (p1.toInt64))])) rfl (hb hby at_11)) ?_
  refine go _ (T28.setTop (mkF m 15 #[.val (.int p1), .val (.int p2), .val (.int p3), .val (.int (v_rm0_0 p2)), .unset, .unset, .unset, .unset, .unset, .unset, .unset, .unset] [(.long ((p1.toInt64) &&& (2147483647 : Int64)))])) (fun t k => XS.land X28.here hx rfl (hb hby at_14) rfl k) ?_
  refine go _ (T28.setTop (mkF m 16 #[.val (.int p1), .val (.int p2), .val (.int p3), .val (.int (v_rm0_0 p2)), .unset, .unset, .unset, .unset, .unset, .unset, .unset, .unset] [(.int (v_rm0_0 p2)), (.long ((p1.toInt64) &&& (2147483647 : Int64)))])) (fun t k => XS.iloadN X28.here hx rfl (hb hby at_15) rfl k) ?_
  refine go _ (T28.setTop (mkF m 17 #[.val (.int p1), .val (.int p2), .val (.int p3), .val (.int (v_rm0_0 p2)), .unset, .unset, .unset, .unset, .unset, .unset, .unset, .unset] [(.long ((v_rm0_0 p2).toInt64)), (.long ((p1.toInt64) &&& (2147483647 : Int64)))])) (fun t k => XS.i2l X28.here hx rfl (hb hby at_16) rfl k) ?_
  refine go _ (T28.setTop (mkF m 18 #[.val (.int p1), .val (.int p2), .val (.int p3), .val (.int (v_rm0_0 p2)), .unset, .unset, .unset, .unset, .unset, .unset, .unset, .unset] [(.long (1 : Int64)), (.long ((v_rm0_0 p2).toInt64)), (.long ((p1.toInt64) &&& (2147483647 : Int64)))])) (fun t k => XS.lconst X28.here hx rfl (hb hby at_17) k) ?_
  refine go _ (T28.setTop (mkF m 19 #[.val (.int p1), .val (.int p2), .val (.int p3), .val (.int (v_rm0_0 p2)), .unset, .unset, .unset, .unset, .unset, .unset, .unset, .unset] [(.long (((v_rm0_0 p2).toInt64) + (1 : Int64))), (.long ((p1.toInt64) &&& (2147483647 : Int64)))])) (fun t k => XS.ladd X28.here hx rfl (hb hby at_18) rfl k) ?_
  refine go _ (T28.setTop (mkF m 20 #[.val (.int p1), .val (.int p2), .val (.int p3), .val (.int (v_rm0_0 p2)), .unset, .unset, .unset, .unset, .unset, .unset, .unset, .unset] [(.long (((p1.toInt64) &&& (2147483647 : Int64)) % (((v_rm0_0 p2).toInt64) + (1 : Int64))))])) (fun t k => own_lrem X28 hx rfl (hb hby at_19) rfl (own_d1 hB h1) k) ?_
  refine go _ (T28.setTop (mkF m 21 #[.val (.int p1), .val (.int p2), .val (.int p3), .val (.int (v_rm0_0 p2)), .unset, .unset, .unset, .unset, .unset, .unset, .unset, .unset] [(.int ((((p1.toInt64) &&& (2147483647 : Int64)) % (((v_rm0_0 p2).toInt64) + (1 : Int64))).toInt32))])) (fun t k => XS.l2i X28.here hx rfl (hb hby at_20) rfl k) ?_
  refine go _ (T28.setTop (mkF m 23 #[.val (.int p1), .val (.int p2), .val (.int p3), .val (.int (v_rm0_0 p2)), .val (.int (v_rm0_1 p1 p2)), .unset, .unset, .unset, .unset, .unset, .unset, .unset] [])) (fun t k => XS.istore X28.here hx rfl (hb hby at_21) rfl (l' := #[.val (.int p1), .val (.int p2), .val (.int p3), .val (.int (v_rm0_0 p2)), .val (.int (v_rm0_1 p1 p2)), .unset, .unset, .unset, .unset, .unset, .unset, .unset]) rfl k) ?_
  obtain ⟨T30, h30, X30, e30, E30, A30, D30, -, st30⟩ := newO X28 hx hZ hown (hw _ (List.mem_of_getElem? (i := 6) rfl)) (hw _ (List.mem_of_getElem? (i := 7) rfl)) (hw _ (List.mem_of_getElem? (i := 8) rfl)) hh28 (g := (mkF m 23 #[.val (.int p1), .val (.int p2), .val (.int p3), .val (.int (v_rm0_0 p2)), .val (.int (v_rm0_1 p1 p2)), .unset, .unset, .unset, .unset, .unset, .unset, .unset] [])) rfl (hb hby at_23) (by decide) (by decide)
  obtain ⟨b30, g30⟩ : ∃ z, z = h0.size := ⟨_, rfl⟩
  rw [← g30] at A30 D30 st30
  have Z31 : n0 ≤ h30.size := Nat.le_trans Z0 E30.1
  have ge_b30 : n0 ≤ b30 := by rw [g30]; exact Z0
  have F_shared_b30 : Fld Z h30 b30 "com/example/bipartite_map/bipartitemap/cluster/Similarity" "shared" "I" (.int (0 : Int32)) := D30 (Or.inr (hw _ (List.mem_of_getElem? (i := 24) rfl))) (ty := .int) (by decide)
  have F_either_b30 : Fld Z h30 b30 "com/example/bipartite_map/bipartitemap/cluster/Similarity" "either" "I" (.int (0 : Int32)) := D30 (Or.inr (hw _ (List.mem_of_getElem? (i := 26) rfl))) (ty := .int) (by decide)
  refine go _ (T30.setTop (mkF m 26 #[.val (.int p1), .val (.int p2), .val (.int p3), .val (.int (v_rm0_0 p2)), .val (.int (v_rm0_1 p1 p2)), .unset, .unset, .unset, .unset, .unset, .unset, .unset] [(.ref b30)])) (st30) ?_
  refine go _ (T30.setTop (mkF m 27 #[.val (.int p1), .val (.int p2), .val (.int p3), .val (.int (v_rm0_0 p2)), .val (.int (v_rm0_1 p1 p2)), .unset, .unset, .unset, .unset, .unset, .unset, .unset] [(.ref b30), (.ref b30)])) (fun t k => XS.dup X30.here hx rfl (hb hby at_26) rfl rfl k) ?_
  refine go _ (T30.setTop (mkF m 29 #[.val (.int p1), .val (.int p2), .val (.int p3), .val (.int (v_rm0_0 p2)), .val (.int (v_rm0_1 p1 p2)), .unset, .unset, .unset, .unset, .unset, .unset, .unset] [(.int (v_rm0_1 p1 p2)), (.ref b30), (.ref b30)])) (fun t k => XS.iload X30.here hx rfl (hb hby at_27) rfl k) ?_
  refine go _ (T30.setTop (mkF m 30 #[.val (.int p1), .val (.int p2), .val (.int p3), .val (.int (v_rm0_0 p2)), .val (.int (v_rm0_1 p1 p2)), .unset, .unset, .unset, .unset, .unset, .unset, .unset] [(.int (v_rm0_0 p2)), (.int (v_rm0_1 p1 p2)), (.ref b30), (.ref b30)])) (fun t k => XS.iloadN X30.here hx rfl (hb hby at_29) rfl k) ?_
  obtain ⟨_, _, ⟨T32, L32, k32, n32⟩, -, X32, ⟨Lc32, hQ32, l32, y32, z32⟩, st32⟩ := X30.specialBack hx (y := (⟨"com/example/bipartite_map/bipartitemap/cluster/Similarity", "<init>", "(II)V"⟩ : MethodName)) rfl hown (mvT hZ (hw _ (List.mem_of_getElem? (i := 9) rfl))) (mvT hZ (hw _ (List.mem_of_getElem? (i := 10) rfl))) (mvT hZ (hw _ (List.mem_of_getElem? (i := 11) rfl))) (by decide) (backOf (W := 1) (rm2 l Z a0 hw [] b30 (v_rm0_1 p1 p2) (v_rm0_0 p2) a b h30 n0 Z31 A30 ge_b30 F_shared_b30 F_either_b30 ha hB h1 hab) hZ (hw _ (List.mem_of_getElem? (i := 11) rfl)) (hw _ (List.mem_of_getElem? (i := 8) rfl)) (by decide) (by decide)) (g := (mkF m 30 #[.val (.int p1), .val (.int p2), .val (.int p3), .val (.int (v_rm0_0 p2)), .val (.int (v_rm0_1 p1 p2)), .unset, .unset, .unset, .unset, .unset, .unset, .unset] [(.int (v_rm0_0 p2)), (.int (v_rm0_1 p1 p2)), (.ref b30), (.ref b30)])) rfl (by rw [hml]; rfl) (Steps.refl _) (a := b30) (argsL := [(.int (v_rm0_1 p1 p2)), (.int (v_rm0_0 p2))]) (rest := [(.ref b30)]) (lenOf pd_1 rfl) rfl (by show 2 * 0 + _ ≤ _; exact Nat.le_of_eq rfl) (hb hby at_30) (fun _ _ => ⟨rfl, e30, (by decide : 0 + 1 + 0 ≤ _), (by decide : 0 + 2 + 0 ≤ _)⟩)
  dsimp only [Pt.U, Pt.locs, Pt.cells, Pt.slots] at X32 l32 y32 z32 st32 hQ32
  subst l32 y32 z32
  obtain ⟨rfl, Nq32, Kq32, Eq32, Fs32, Fe32⟩ := hQ32
  have N33 := Fr.app N29 Nq32
  have Z34 : n0 ≤ T32.heap.size := Nat.le_trans Z31 Kq32.1
  refine go _ (T32.setTop (mkF m 33 #[.val (.int p1), .val (.int p2), .val (.int p3), .val (.int (v_rm0_0 p2)), .val (.int (v_rm0_1 p1 p2)), .unset, .unset, .unset, .unset, .unset, .unset, .unset] [(.ref b30)])) (fun t k => st32.trans k) ?_
  refine go _ (T32.setTop (mkF m 35 #[.val (.int p1), .val (.int p2), .val (.int p3), .val (.int (v_rm0_0 p2)), .val (.int (v_rm0_1 p1 p2)), .val (.ref b30), .unset, .unset, .unset, .unset, .unset, .unset] [])) (fun t k => XS.astore X32.here hx rfl (hb hby at_33) rfl rfl (l' := #[.val (.int p1), .val (.int p2), .val (.int p3), .val (.int (v_rm0_0 p2)), .val (.int (v_rm0_1 p1 p2)), .val (.ref b30), .unset, .unset, .unset, .unset, .unset, .unset]) rfl k) ?_
  refine go _ (T32.setTop (mkF m 38 #[.val (.int p1), .val (.int p2), .val (.int p3), .val (.int (v_rm0_0 p2)), .val (.int (v_rm0_1 p1 p2)), .val (.ref b30), .unset, .unset, .unset, .unset, .unset, .unset] [(.long (100 : Int64))])) (X32.ldc2Long hx hown (mvT hZ (hw _ (List.mem_of_getElem? (i := 27) rfl))) (g := (mkF m 35 #[.val (.int p1), .val (.int p2), .val (.int p3), .val (.int (v_rm0_0 p2)), .val (.int (v_rm0_1 p1 p2)), .val (.ref b30), .unset, .unset, .unset, .unset, .unset, .unset] [])) rfl (hb hby at_35)) ?_
  refine go _ (T32.setTop (mkF m 40 #[.val (.int p1), .val (.int p2), .val (.int p3), .val (.int (v_rm0_0 p2)), .val (.int (v_rm0_1 p1 p2)), .val (.ref b30), .unset, .unset, .unset, .unset, .unset, .unset] [(.int (v_rm0_1 p1 p2)), (.long (100 : Int64))])) (fun t k => XS.iload X32.here hx rfl (hb hby at_38) rfl k) ?_
  refine go _ (T32.setTop (mkF m 41 #[.val (.int p1), .val (.int p2), .val (.int p3), .val (.int (v_rm0_0 p2)), .val (.int (v_rm0_1 p1 p2)), .val (.ref b30), .unset, .unset, .unset, .unset, .unset, .unset] [(.long ((v_rm0_1 p1 p2).toInt64)), (.long (100 : Int64))])) (fun t k => XS.i2l X32.here hx rfl (hb hby at_40) rfl k) ?_
  refine go _ (T32.setTop (mkF m 42 #[.val (.int p1), .val (.int p2), .val (.int p3), .val (.int (v_rm0_0 p2)), .val (.int (v_rm0_1 p1 p2)), .val (.ref b30), .unset, .unset, .unset, .unset, .unset, .unset] [(.long ((100 : Int64) * ((v_rm0_1 p1 p2).toInt64)))])) (fun t k => XS.lmul X32.here hx rfl (hb hby at_41) rfl k) ?_
  refine go _ (T32.setTop (mkF m 43 #[.val (.int p1), .val (.int p2), .val (.int p3), .val (.int (v_rm0_0 p2)), .val (.int (v_rm0_1 p1 p2)), .val (.ref b30), .unset, .unset, .unset, .unset, .unset, .unset] [(.int (v_rm0_0 p2)), (.long ((100 : Int64) * ((v_rm0_1 p1 p2).toInt64)))])) (fun t k => XS.iloadN X32.here hx rfl (hb hby at_42) rfl k) ?_
  refine go _ (T32.setTop (mkF m 44 #[.val (.int p1), .val (.int p2), .val (.int p3), .val (.int (v_rm0_0 p2)), .val (.int (v_rm0_1 p1 p2)), .val (.ref b30), .unset, .unset, .unset, .unset, .unset, .unset] [(.long ((v_rm0_0 p2).toInt64)), (.long ((100 : Int64) * ((v_rm0_1 p1 p2).toInt64)))])) (fun t k => XS.i2l X32.here hx rfl (hb hby at_43) rfl k) ?_
  refine go _ (T32.setTop (mkF m 45 #[.val (.int p1), .val (.int p2), .val (.int p3), .val (.int (v_rm0_0 p2)), .val (.int (v_rm0_1 p1 p2)), .val (.ref b30), .unset, .unset, .unset, .unset, .unset, .unset] [(.long (((100 : Int64) * ((v_rm0_1 p1 p2).toInt64)) / ((v_rm0_0 p2).toInt64)))])) (fun t k => XS.ldiv X32.here hx rfl (hb hby at_44) rfl (own_d2 hB h1) k) ?_
  refine go _ (T32.setTop (mkF m 47 #[.val (.int p1), .val (.int p2), .val (.int p3), .val (.int (v_rm0_0 p2)), .val (.int (v_rm0_1 p1 p2)), .val (.ref b30), .val (.long (v_rm0_2 p1 p2)), .second, .unset, .unset, .unset, .unset] [])) (fun t k => XS.lstore X32.here hx rfl (hb hby at_45) rfl (l' := #[.val (.int p1), .val (.int p2), .val (.int p3), .val (.int (v_rm0_0 p2)), .val (.int (v_rm0_1 p1 p2)), .val (.ref b30), .val (.long (v_rm0_2 p1 p2)), .second, .unset, .unset, .unset, .unset]) rfl k) ?_
  refine go _ (T32.setTop (mkF m 48 #[.val (.int p1), .val (.int p2), .val (.int p3), .val (.int (v_rm0_0 p2)), .val (.int (v_rm0_1 p1 p2)), .val (.ref b30), .val (.long (v_rm0_2 p1 p2)), .second, .unset, .unset, .unset, .unset] [(.int p3)])) (fun t k => XS.iloadN X32.here hx rfl (hb hby at_47) rfl k) ?_
  refine go _ (T32.setTop (mkF m 49 #[.val (.int p1), .val (.int p2), .val (.int p3), .val (.int (v_rm0_0 p2)), .val (.int (v_rm0_1 p1 p2)), .val (.ref b30), .val (.long (v_rm0_2 p1 p2)), .second, .unset, .unset, .unset, .unset] [(.long (p3.toInt64))])) (fun t k => XS.i2l X32.here hx rfl (hb hby at_48) rfl k) ?_
  refine go _ (T32.setTop (mkF m 51 #[.val (.int p1), .val (.int p2), .val (.int p3), .val (.int (v_rm0_0 p2)), .val (.int (v_rm0_1 p1 p2)), .val (.ref b30), .val (.long (v_rm0_2 p1 p2)), .second, .unset, .unset, .unset, .unset] [(.long (v_rm0_2 p1 p2)), (.long (p3.toInt64))])) (fun t k => XS.lload X32.here hx rfl (hb hby at_49) rfl k) ?_
  refine go _ (T32.setTop (mkF m 52 #[.val (.int p1), .val (.int p2), .val (.int p3), .val (.int (v_rm0_0 p2)), .val (.int (v_rm0_1 p1 p2)), .val (.ref b30), .val (.long (v_rm0_2 p1 p2)), .second, .unset, .unset, .unset, .unset] [(.int (lcmpW (p3.toInt64) (v_rm0_2 p1 p2)))])) (fun t k => XS.lcmp X32.here hx rfl (hb hby at_51) rfl k) ?_
  by_cases hc35 : (v_rm0_2 p1 p2) < (p3.toInt64)
  · refine go _ (T32.setTop (mkF m 59 #[.val (.int p1), .val (.int p2), .val (.int p3), .val (.int (v_rm0_0 p2)), .val (.int (v_rm0_1 p1 p2)), .val (.ref b30), .val (.long (v_rm0_2 p1 p2)), .second, .unset, .unset, .unset, .unset] [])) (fun t k => XS.ifYes X32.here hx rfl (pc0 := 52) (pc' := 59) rfl (hb hby at_52) rfl ((if0 _ _).trans (tlt ((lw_gt (p3.toInt64) (v_rm0_2 p1 p2)).mpr hc35)).2.2.1) (by decide) (by decide) k) ?_
    refine go _ (T32.setTop (mkF m 60 #[.val (.int p1), .val (.int p2), .val (.int p3), .val (.int (v_rm0_0 p2)), .val (.int (v_rm0_1 p1 p2)), .val (.ref b30), .val (.long (v_rm0_2 p1 p2)), .second, .unset, .unset, .unset, .unset] [(.int (0 : Int32))])) (fun t k => XS.iconst X32.here hx rfl (hb hby at_59) k) ?_
    refine go _ (T32.setTop (mkF m 62 #[.val (.int p1), .val (.int p2), .val (.int p3), .val (.int (v_rm0_0 p2)), .val (.int (v_rm0_1 p1 p2)), .val (.ref b30), .val (.long (v_rm0_2 p1 p2)), .second, .val (.int (0 : Int32)), .unset, .unset, .unset] [])) (fun t k => XS.istore X32.here hx rfl (hb hby at_60) rfl (l' := #[.val (.int p1), .val (.int p2), .val (.int p3), .val (.int (v_rm0_0 p2)), .val (.int (v_rm0_1 p1 p2)), .val (.ref b30), .val (.long (v_rm0_2 p1 p2)), .second, .val (.int (0 : Int32)), .unset, .unset, .unset]) rfl k) ?_
    refine go _ (T32.setTop (mkF m 64 #[.val (.int p1), .val (.int p2), .val (.int p3), .val (.int (v_rm0_0 p2)), .val (.int (v_rm0_1 p1 p2)), .val (.ref b30), .val (.long (v_rm0_2 p1 p2)), .second, .val (.int (0 : Int32)), .unset, .unset, .unset] [(.ref b30)])) (fun t k => XS.aload X32.here hx rfl (hb hby at_62) rfl rfl k) ?_
    refine go _ (T32.setTop (mkF m 65 #[.val (.int p1), .val (.int p2), .val (.int p3), .val (.int (v_rm0_0 p2)), .val (.int (v_rm0_1 p1 p2)), .val (.ref b30), .val (.long (v_rm0_2 p1 p2)), .second, .val (.int (0 : Int32)), .unset, .unset, .unset] [(.int p3), (.ref b30)])) (fun t k => XS.iloadN X32.here hx rfl (hb hby at_64) rfl k) ?_
    obtain ⟨cq36, kq36, q36a, q36b, q36c⟩ := isOf hZ rfl Eq32
    obtain ⟨_, _, ⟨T36, L36, k36, n36⟩, -, X36, ⟨Lc36, hQ36, l36, y36, z36⟩, st36⟩ := X32.virtualBack hx (y := (⟨"com/example/bipartite_map/bipartitemap/cluster/Similarity", "atLeast", "(I)Z"⟩ : MethodName)) (z := (⟨"com/example/bipartite_map/bipartitemap/cluster/Similarity", "atLeast", "(I)Z"⟩ : MethodName)) hown (mvT hZ (hw _ (List.mem_of_getElem? (i := 28) rfl))) (mvT hZ (hw _ (List.mem_of_getElem? (i := 29) rfl))) (notFace_of_selects (args := #[]) (mvT hZ (hw _ (List.mem_of_getElem? (i := 31) rfl)))) (mvT hZ (hw _ (List.mem_of_getElem? (i := 31) rfl))) (mvT hZ (hw _ (List.mem_of_getElem? (i := 30) rfl))) (by decide) (backOf (W := 0) (rm6 l Z a0 hw [] b30 p3 ((v_rm0_1 p1 p2) / (Int32.ofNat (Nat.gcd a b))) ((v_rm0_0 p2) / (Int32.ofNat (Nat.gcd a b))) T32.heap n0 Z34 Fs32 Fe32) hZ (hw _ (List.mem_of_getElem? (i := 32) rfl)) (hw _ (List.mem_of_getElem? (i := 8) rfl)) (by decide) (by decide)) q36a q36c (g := (mkF m 65 #[.val (.int p1), .val (.int p2), .val (.int p3), .val (.int (v_rm0_0 p2)), .val (.int (v_rm0_1 p1 p2)), .val (.ref b30), .val (.long (v_rm0_2 p1 p2)), .second, .val (.int (0 : Int32)), .unset, .unset, .unset] [(.int p3), (.ref b30)])) rfl (by rw [hml]; rfl) (Steps.refl _) (argsL := [(.int p3)]) (rest := []) (lenOf pd_4 rfl) rfl (by show 2 * 0 + _ ≤ _; exact Nat.le_of_eq rfl) (hb hby at_65) (fun _ _ => ⟨rfl, rfl, (by decide : 0 + 1 + 0 ≤ _), (by decide : 0 + 2 + 0 ≤ _)⟩)
    dsimp only [Pt.U, Pt.locs, Pt.cells, Pt.slots] at X36 l36 y36 z36 st36 hQ36
    subst l36 y36 z36
    obtain ⟨rfl, Nq36, hh36⟩ := hQ36
    have N37 := Fr.app N33 Nq36
    refine go _ (T36.setTop (mkF m 68 #[.val (.int p1), .val (.int p2), .val (.int p3), .val (.int (v_rm0_0 p2)), .val (.int (v_rm0_1 p1 p2)), .val (.ref b30), .val (.long (v_rm0_2 p1 p2)), .second, .val (.int (0 : Int32)), .unset, .unset, .unset] [(.int (own_al ((v_rm0_1 p1 p2) / (Int32.ofNat (Nat.gcd a b))) ((v_rm0_0 p2) / (Int32.ofNat (Nat.gcd a b))) p3))])) (fun t k => st36.trans k) ?_
    refine go _ (T36.setTop (mkF m 70 #[.val (.int p1), .val (.int p2), .val (.int p3), .val (.int (v_rm0_0 p2)), .val (.int (v_rm0_1 p1 p2)), .val (.ref b30), .val (.long (v_rm0_2 p1 p2)), .second, .val (.int (0 : Int32)), .val (.int (v_rm0_3 a b p3 p1 p2)), .unset, .unset] [])) (fun t k => XS.istore X36.here hx rfl (hb hby at_68) rfl (l' := #[.val (.int p1), .val (.int p2), .val (.int p3), .val (.int (v_rm0_0 p2)), .val (.int (v_rm0_1 p1 p2)), .val (.ref b30), .val (.long (v_rm0_2 p1 p2)), .second, .val (.int (0 : Int32)), .val (.int (v_rm0_3 a b p3 p1 p2)), .unset, .unset]) rfl k) ?_
    refine go _ (T36.setTop (mkF m 72 #[.val (.int p1), .val (.int p2), .val (.int p3), .val (.int (v_rm0_0 p2)), .val (.int (v_rm0_1 p1 p2)), .val (.ref b30), .val (.long (v_rm0_2 p1 p2)), .second, .val (.int (0 : Int32)), .val (.int (v_rm0_3 a b p3 p1 p2)), .unset, .unset] [(.ref b30)])) (fun t k => XS.aload X36.here hx rfl (hb hby at_70) rfl rfl k) ?_
    refine go _ (T36.setTop (mkF m 74 #[.val (.int p1), .val (.int p2), .val (.int p3), .val (.int (v_rm0_0 p2)), .val (.int (v_rm0_1 p1 p2)), .val (.ref b30), .val (.long (v_rm0_2 p1 p2)), .second, .val (.int (0 : Int32)), .val (.int (v_rm0_3 a b p3 p1 p2)), .unset, .unset] [(.long (v_rm0_2 p1 p2)), (.ref b30)])) (fun t k => XS.lload X36.here hx rfl (hb hby at_72) rfl k) ?_
    refine go _ (T36.setTop (mkF m 75 #[.val (.int p1), .val (.int p2), .val (.int p3), .val (.int (v_rm0_0 p2)), .val (.int (v_rm0_1 p1 p2)), .val (.ref b30), .val (.long (v_rm0_2 p1 p2)), .second, .val (.int (0 : Int32)), .val (.int (v_rm0_3 a b p3 p1 p2)), .unset, .unset] [(.int ((v_rm0_2 p1 p2).toInt32)), (.ref b30)])) (fun t k => XS.l2i X36.here hx rfl (hb hby at_74) rfl k) ?_
    obtain ⟨cq38, kq38, q38a, q38b, q38c⟩ := isOf hZ hh36 Eq32
    obtain ⟨_, _, ⟨T38, L38, k38, n38⟩, -, X38, ⟨Lc38, hQ38, l38, y38, z38⟩, st38⟩ := X36.virtualBack hx (y := (⟨"com/example/bipartite_map/bipartitemap/cluster/Similarity", "atLeast", "(I)Z"⟩ : MethodName)) (z := (⟨"com/example/bipartite_map/bipartitemap/cluster/Similarity", "atLeast", "(I)Z"⟩ : MethodName)) hown (mvT hZ (hw _ (List.mem_of_getElem? (i := 28) rfl))) (mvT hZ (hw _ (List.mem_of_getElem? (i := 29) rfl))) (notFace_of_selects (args := #[]) (mvT hZ (hw _ (List.mem_of_getElem? (i := 31) rfl)))) (mvT hZ (hw _ (List.mem_of_getElem? (i := 31) rfl))) (mvT hZ (hw _ (List.mem_of_getElem? (i := 30) rfl))) (by decide) (backOf (W := 0) (rm6 l Z a0 hw [] b30 ((v_rm0_2 p1 p2).toInt32) ((v_rm0_1 p1 p2) / (Int32.ofNat (Nat.gcd a b))) ((v_rm0_0 p2) / (Int32.ofNat (Nat.gcd a b))) T32.heap n0 Z34 Fs32 Fe32) hZ (hw _ (List.mem_of_getElem? (i := 32) rfl)) (hw _ (List.mem_of_getElem? (i := 8) rfl)) (by decide) (by decide)) q38a q38c (g := (mkF m 75 #[.val (.int p1), .val (.int p2), .val (.int p3), .val (.int (v_rm0_0 p2)), .val (.int (v_rm0_1 p1 p2)), .val (.ref b30), .val (.long (v_rm0_2 p1 p2)), .second, .val (.int (0 : Int32)), .val (.int (v_rm0_3 a b p3 p1 p2)), .unset, .unset] [(.int ((v_rm0_2 p1 p2).toInt32)), (.ref b30)])) rfl (by rw [hml]; rfl) (Steps.refl _) (argsL := [(.int ((v_rm0_2 p1 p2).toInt32))]) (rest := []) (lenOf pd_4 rfl) rfl (by show 2 * 0 + _ ≤ _; exact Nat.le_of_eq rfl) (hb hby at_75) (fun _ _ => ⟨rfl, hh36, (by decide : 0 + 1 + 0 ≤ _), (by decide : 0 + 2 + 0 ≤ _)⟩)
    dsimp only [Pt.U, Pt.locs, Pt.cells, Pt.slots] at X38 l38 y38 z38 st38 hQ38
    subst l38 y38 z38
    obtain ⟨rfl, Nq38, hh38⟩ := hQ38
    have N39 := Fr.app N37 Nq38
    refine go _ (T38.setTop (mkF m 78 #[.val (.int p1), .val (.int p2), .val (.int p3), .val (.int (v_rm0_0 p2)), .val (.int (v_rm0_1 p1 p2)), .val (.ref b30), .val (.long (v_rm0_2 p1 p2)), .second, .val (.int (0 : Int32)), .val (.int (v_rm0_3 a b p3 p1 p2)), .unset, .unset] [(.int (own_al ((v_rm0_1 p1 p2) / (Int32.ofNat (Nat.gcd a b))) ((v_rm0_0 p2) / (Int32.ofNat (Nat.gcd a b))) ((v_rm0_2 p1 p2).toInt32)))])) (fun t k => st38.trans k) ?_
    refine go _ (T38.setTop (mkF m 80 #[.val (.int p1), .val (.int p2), .val (.int p3), .val (.int (v_rm0_0 p2)), .val (.int (v_rm0_1 p1 p2)), .val (.ref b30), .val (.long (v_rm0_2 p1 p2)), .second, .val (.int (0 : Int32)), .val (.int (v_rm0_3 a b p3 p1 p2)), .val (.int (v_rm0_4 a b p1 p2)), .unset] [])) (fun t k => XS.istore X38.here hx rfl (hb hby at_78) rfl (l' := #[.val (.int p1), .val (.int p2), .val (.int p3), .val (.int (v_rm0_0 p2)), .val (.int (v_rm0_1 p1 p2)), .val (.ref b30), .val (.long (v_rm0_2 p1 p2)), .second, .val (.int (0 : Int32)), .val (.int (v_rm0_3 a b p3 p1 p2)), .val (.int (v_rm0_4 a b p1 p2)), .unset]) rfl k) ?_
    refine go _ (T38.setTop (mkF m 82 #[.val (.int p1), .val (.int p2), .val (.int p3), .val (.int (v_rm0_0 p2)), .val (.int (v_rm0_1 p1 p2)), .val (.ref b30), .val (.long (v_rm0_2 p1 p2)), .second, .val (.int (0 : Int32)), .val (.int (v_rm0_3 a b p3 p1 p2)), .val (.int (v_rm0_4 a b p1 p2)), .unset] [(.ref b30)])) (fun t k => XS.aload X38.here hx rfl (hb hby at_80) rfl rfl k) ?_
    refine go _ (T38.setTop (mkF m 84 #[.val (.int p1), .val (.int p2), .val (.int p3), .val (.int (v_rm0_0 p2)), .val (.int (v_rm0_1 p1 p2)), .val (.ref b30), .val (.long (v_rm0_2 p1 p2)), .second, .val (.int (0 : Int32)), .val (.int (v_rm0_3 a b p3 p1 p2)), .val (.int (v_rm0_4 a b p1 p2)), .unset] [(.long (v_rm0_2 p1 p2)), (.ref b30)])) (fun t k => XS.lload X38.here hx rfl (hb hby at_82) rfl k) ?_
    refine go _ (T38.setTop (mkF m 85 #[.val (.int p1), .val (.int p2), .val (.int p3), .val (.int (v_rm0_0 p2)), .val (.int (v_rm0_1 p1 p2)), .val (.ref b30), .val (.long (v_rm0_2 p1 p2)), .second, .val (.int (0 : Int32)), .val (.int (v_rm0_3 a b p3 p1 p2)), .val (.int (v_rm0_4 a b p1 p2)), .unset] [(.int ((v_rm0_2 p1 p2).toInt32)), (.ref b30)])) (fun t k => XS.l2i X38.here hx rfl (hb hby at_84) rfl k) ?_
    refine go _ (T38.setTop (mkF m 86 #[.val (.int p1), .val (.int p2), .val (.int p3), .val (.int (v_rm0_0 p2)), .val (.int (v_rm0_1 p1 p2)), .val (.ref b30), .val (.long (v_rm0_2 p1 p2)), .second, .val (.int (0 : Int32)), .val (.int (v_rm0_3 a b p3 p1 p2)), .val (.int (v_rm0_4 a b p1 p2)), .unset] [(.int (1 : Int32)), (.int ((v_rm0_2 p1 p2).toInt32)), (.ref b30)])) (fun t k => XS.iconst X38.here hx rfl (hb hby at_85) k) ?_
    refine go _ (T38.setTop (mkF m 87 #[.val (.int p1), .val (.int p2), .val (.int p3), .val (.int (v_rm0_0 p2)), .val (.int (v_rm0_1 p1 p2)), .val (.ref b30), .val (.long (v_rm0_2 p1 p2)), .second, .val (.int (0 : Int32)), .val (.int (v_rm0_3 a b p3 p1 p2)), .val (.int (v_rm0_4 a b p1 p2)), .unset] [(.int (((v_rm0_2 p1 p2).toInt32) + (1 : Int32))), (.ref b30)])) (fun t k => XS.iadd X38.here hx rfl (hb hby at_86) rfl k) ?_
    obtain ⟨cq40, kq40, q40a, q40b, q40c⟩ := isOf hZ hh38 Eq32
    obtain ⟨_, _, ⟨T40, L40, k40, n40⟩, -, X40, ⟨Lc40, hQ40, l40, y40, z40⟩, st40⟩ := X38.virtualBack hx (y := (⟨"com/example/bipartite_map/bipartitemap/cluster/Similarity", "atLeast", "(I)Z"⟩ : MethodName)) (z := (⟨"com/example/bipartite_map/bipartitemap/cluster/Similarity", "atLeast", "(I)Z"⟩ : MethodName)) hown (mvT hZ (hw _ (List.mem_of_getElem? (i := 28) rfl))) (mvT hZ (hw _ (List.mem_of_getElem? (i := 29) rfl))) (notFace_of_selects (args := #[]) (mvT hZ (hw _ (List.mem_of_getElem? (i := 31) rfl)))) (mvT hZ (hw _ (List.mem_of_getElem? (i := 31) rfl))) (mvT hZ (hw _ (List.mem_of_getElem? (i := 30) rfl))) (by decide) (backOf (W := 0) (rm6 l Z a0 hw [] b30 (((v_rm0_2 p1 p2).toInt32) + (1 : Int32)) ((v_rm0_1 p1 p2) / (Int32.ofNat (Nat.gcd a b))) ((v_rm0_0 p2) / (Int32.ofNat (Nat.gcd a b))) T32.heap n0 Z34 Fs32 Fe32) hZ (hw _ (List.mem_of_getElem? (i := 32) rfl)) (hw _ (List.mem_of_getElem? (i := 8) rfl)) (by decide) (by decide)) q40a q40c (g := (mkF m 87 #[.val (.int p1), .val (.int p2), .val (.int p3), .val (.int (v_rm0_0 p2)), .val (.int (v_rm0_1 p1 p2)), .val (.ref b30), .val (.long (v_rm0_2 p1 p2)), .second, .val (.int (0 : Int32)), .val (.int (v_rm0_3 a b p3 p1 p2)), .val (.int (v_rm0_4 a b p1 p2)), .unset] [(.int (((v_rm0_2 p1 p2).toInt32) + (1 : Int32))), (.ref b30)])) rfl (by rw [hml]; rfl) (Steps.refl _) (argsL := [(.int (((v_rm0_2 p1 p2).toInt32) + (1 : Int32)))]) (rest := []) (lenOf pd_4 rfl) rfl (by show 2 * 0 + _ ≤ _; exact Nat.le_of_eq rfl) (hb hby at_87) (fun _ _ => ⟨rfl, hh38, (by decide : 0 + 1 + 0 ≤ _), (by decide : 0 + 2 + 0 ≤ _)⟩)
    dsimp only [Pt.U, Pt.locs, Pt.cells, Pt.slots] at X40 l40 y40 z40 st40 hQ40
    subst l40 y40 z40
    obtain ⟨rfl, Nq40, hh40⟩ := hQ40
    have N41 := Fr.app N39 Nq40
    refine go _ (T40.setTop (mkF m 90 #[.val (.int p1), .val (.int p2), .val (.int p3), .val (.int (v_rm0_0 p2)), .val (.int (v_rm0_1 p1 p2)), .val (.ref b30), .val (.long (v_rm0_2 p1 p2)), .second, .val (.int (0 : Int32)), .val (.int (v_rm0_3 a b p3 p1 p2)), .val (.int (v_rm0_4 a b p1 p2)), .unset] [(.int (own_al ((v_rm0_1 p1 p2) / (Int32.ofNat (Nat.gcd a b))) ((v_rm0_0 p2) / (Int32.ofNat (Nat.gcd a b))) (((v_rm0_2 p1 p2).toInt32) + (1 : Int32))))])) (fun t k => st40.trans k) ?_
    refine go _ (T40.setTop (mkF m 92 #[.val (.int p1), .val (.int p2), .val (.int p3), .val (.int (v_rm0_0 p2)), .val (.int (v_rm0_1 p1 p2)), .val (.ref b30), .val (.long (v_rm0_2 p1 p2)), .second, .val (.int (0 : Int32)), .val (.int (v_rm0_3 a b p3 p1 p2)), .val (.int (v_rm0_4 a b p1 p2)), .val (.int (v_rm0_5 a b p1 p2))] [])) (fun t k => XS.istore X40.here hx rfl (hb hby at_90) rfl (l' := #[.val (.int p1), .val (.int p2), .val (.int p3), .val (.int (v_rm0_0 p2)), .val (.int (v_rm0_1 p1 p2)), .val (.ref b30), .val (.long (v_rm0_2 p1 p2)), .second, .val (.int (0 : Int32)), .val (.int (v_rm0_3 a b p3 p1 p2)), .val (.int (v_rm0_4 a b p1 p2)), .val (.int (v_rm0_5 a b p1 p2))]) rfl k) ?_
    refine go _ (T40.setTop (mkF m 94 #[.val (.int p1), .val (.int p2), .val (.int p3), .val (.int (v_rm0_0 p2)), .val (.int (v_rm0_1 p1 p2)), .val (.ref b30), .val (.long (v_rm0_2 p1 p2)), .second, .val (.int (0 : Int32)), .val (.int (v_rm0_3 a b p3 p1 p2)), .val (.int (v_rm0_4 a b p1 p2)), .val (.int (v_rm0_5 a b p1 p2))] [(.int (v_rm0_3 a b p3 p1 p2))])) (fun t k => XS.iload X40.here hx rfl (hb hby at_92) rfl k) ?_
    refine go _ (T40.setTop (mkF m 96 #[.val (.int p1), .val (.int p2), .val (.int p3), .val (.int (v_rm0_0 p2)), .val (.int (v_rm0_1 p1 p2)), .val (.ref b30), .val (.long (v_rm0_2 p1 p2)), .second, .val (.int (0 : Int32)), .val (.int (v_rm0_3 a b p3 p1 p2)), .val (.int (v_rm0_4 a b p1 p2)), .val (.int (v_rm0_5 a b p1 p2))] [(.int (0 : Int32)), (.int (v_rm0_3 a b p3 p1 p2))])) (fun t k => XS.iload X40.here hx rfl (hb hby at_94) rfl k) ?_
    have hc42 : ((v_rm0_3 a b p3 p1 p2) = (0 : Int32)) := own_o0 ha hB h1 hab hc35
    refine go _ (T40.setTop (mkF m 99 #[.val (.int p1), .val (.int p2), .val (.int p3), .val (.int (v_rm0_0 p2)), .val (.int (v_rm0_1 p1 p2)), .val (.ref b30), .val (.long (v_rm0_2 p1 p2)), .second, .val (.int (0 : Int32)), .val (.int (v_rm0_3 a b p3 p1 p2)), .val (.int (v_rm0_4 a b p1 p2)), .val (.int (v_rm0_5 a b p1 p2))] [])) (fun t k => XS.icmpNo X40.here hx rfl (hb hby at_96) rfl (teq hc42).2 k) ?_
    refine go _ (T40.setTop (mkF m 101 #[.val (.int p1), .val (.int p2), .val (.int p3), .val (.int (v_rm0_0 p2)), .val (.int (v_rm0_1 p1 p2)), .val (.ref b30), .val (.long (v_rm0_2 p1 p2)), .second, .val (.int (0 : Int32)), .val (.int (v_rm0_3 a b p3 p1 p2)), .val (.int (v_rm0_4 a b p1 p2)), .val (.int (v_rm0_5 a b p1 p2))] [(.int (v_rm0_4 a b p1 p2))])) (fun t k => XS.iload X40.here hx rfl (hb hby at_99) rfl k) ?_
    have hc43 : ¬ ((v_rm0_4 a b p1 p2) = (0 : Int32)) := own_o2 ha hB h1 hab
    refine go _ (T40.setTop (mkF m 104 #[.val (.int p1), .val (.int p2), .val (.int p3), .val (.int (v_rm0_0 p2)), .val (.int (v_rm0_1 p1 p2)), .val (.ref b30), .val (.long (v_rm0_2 p1 p2)), .second, .val (.int (0 : Int32)), .val (.int (v_rm0_3 a b p3 p1 p2)), .val (.int (v_rm0_4 a b p1 p2)), .val (.int (v_rm0_5 a b p1 p2))] [])) (fun t k => XS.ifNo X40.here hx rfl (hb hby at_101) rfl ((if0 _ _).trans (feq hc43).1) k) ?_
    refine go _ (T40.setTop (mkF m 106 #[.val (.int p1), .val (.int p2), .val (.int p3), .val (.int (v_rm0_0 p2)), .val (.int (v_rm0_1 p1 p2)), .val (.ref b30), .val (.long (v_rm0_2 p1 p2)), .second, .val (.int (0 : Int32)), .val (.int (v_rm0_3 a b p3 p1 p2)), .val (.int (v_rm0_4 a b p1 p2)), .val (.int (v_rm0_5 a b p1 p2))] [(.int (v_rm0_5 a b p1 p2))])) (fun t k => XS.iload X40.here hx rfl (hb hby at_104) rfl k) ?_
    have hc44 : ((v_rm0_5 a b p1 p2) = (0 : Int32)) := own_o3 ha hB h1 hab
    refine go _ (T40.setTop (mkF m 109 #[.val (.int p1), .val (.int p2), .val (.int p3), .val (.int (v_rm0_0 p2)), .val (.int (v_rm0_1 p1 p2)), .val (.ref b30), .val (.long (v_rm0_2 p1 p2)), .second, .val (.int (0 : Int32)), .val (.int (v_rm0_3 a b p3 p1 p2)), .val (.int (v_rm0_4 a b p1 p2)), .val (.int (v_rm0_5 a b p1 p2))] [])) (fun t k => XS.ifNo X40.here hx rfl (hb hby at_106) rfl ((if0 _ _).trans (teq hc44).2) k) ?_
    refine go _ (T40.setTop (mkF m 110 #[.val (.int p1), .val (.int p2), .val (.int p3), .val (.int (v_rm0_0 p2)), .val (.int (v_rm0_1 p1 p2)), .val (.ref b30), .val (.long (v_rm0_2 p1 p2)), .second, .val (.int (0 : Int32)), .val (.int (v_rm0_3 a b p3 p1 p2)), .val (.int (v_rm0_4 a b p1 p2)), .val (.int (v_rm0_5 a b p1 p2))] [(.int (1 : Int32))])) (fun t k => XS.iconst X40.here hx rfl (hb hby at_109) k) ?_
    refine go _ (T40.setTop (mkF m 114 #[.val (.int p1), .val (.int p2), .val (.int p3), .val (.int (v_rm0_0 p2)), .val (.int (v_rm0_1 p1 p2)), .val (.ref b30), .val (.long (v_rm0_2 p1 p2)), .second, .val (.int (0 : Int32)), .val (.int (v_rm0_3 a b p3 p1 p2)), .val (.int (v_rm0_4 a b p1 p2)), .val (.int (v_rm0_5 a b p1 p2))] [(.int (1 : Int32))])) (fun t k => XS.goto X40.here hx rfl (pc0 := 110) (pc' := 114) rfl (hb hby at_110) (by decide) (by decide) k) ?_
    exact fin (some (.int (1 : Int32))) X40 (by decide) (by decide) (fun q => by cases q) (show Q_rm0 Z p1 p2 p3 h0 n0 _ T40.heap _ from (by rw [hh40]; exact ⟨rfl, N41⟩)) (fun fs hr => retN X40 hx (t := .boolean) hret (by simp) (hb hby at_114) hr)
  · refine go _ (T32.setTop (mkF m 55 #[.val (.int p1), .val (.int p2), .val (.int p3), .val (.int (v_rm0_0 p2)), .val (.int (v_rm0_1 p1 p2)), .val (.ref b30), .val (.long (v_rm0_2 p1 p2)), .second, .unset, .unset, .unset, .unset] [])) (fun t k => XS.ifNo X32.here hx rfl (hb hby at_52) rfl ((if0 _ _).trans (flt (fun q => hc35 ((lw_gt (p3.toInt64) (v_rm0_2 p1 p2)).mp q))).2.2.1) k) ?_
    refine go _ (T32.setTop (mkF m 56 #[.val (.int p1), .val (.int p2), .val (.int p3), .val (.int (v_rm0_0 p2)), .val (.int (v_rm0_1 p1 p2)), .val (.ref b30), .val (.long (v_rm0_2 p1 p2)), .second, .unset, .unset, .unset, .unset] [(.int (1 : Int32))])) (fun t k => XS.iconst X32.here hx rfl (hb hby at_55) k) ?_
    refine go _ (T32.setTop (mkF m 60 #[.val (.int p1), .val (.int p2), .val (.int p3), .val (.int (v_rm0_0 p2)), .val (.int (v_rm0_1 p1 p2)), .val (.ref b30), .val (.long (v_rm0_2 p1 p2)), .second, .unset, .unset, .unset, .unset] [(.int (1 : Int32))])) (fun t k => XS.goto X32.here hx rfl (pc0 := 56) (pc' := 60) rfl (hb hby at_56) (by decide) (by decide) k) ?_
    refine go _ (T32.setTop (mkF m 62 #[.val (.int p1), .val (.int p2), .val (.int p3), .val (.int (v_rm0_0 p2)), .val (.int (v_rm0_1 p1 p2)), .val (.ref b30), .val (.long (v_rm0_2 p1 p2)), .second, .val (.int (1 : Int32)), .unset, .unset, .unset] [])) (fun t k => XS.istore X32.here hx rfl (hb hby at_60) rfl (l' := #[.val (.int p1), .val (.int p2), .val (.int p3), .val (.int (v_rm0_0 p2)), .val (.int (v_rm0_1 p1 p2)), .val (.ref b30), .val (.long (v_rm0_2 p1 p2)), .second, .val (.int (1 : Int32)), .unset, .unset, .unset]) rfl k) ?_
    refine go _ (T32.setTop (mkF m 64 #[.val (.int p1), .val (.int p2), .val (.int p3), .val (.int (v_rm0_0 p2)), .val (.int (v_rm0_1 p1 p2)), .val (.ref b30), .val (.long (v_rm0_2 p1 p2)), .second, .val (.int (1 : Int32)), .unset, .unset, .unset] [(.ref b30)])) (fun t k => XS.aload X32.here hx rfl (hb hby at_62) rfl rfl k) ?_
    refine go _ (T32.setTop (mkF m 65 #[.val (.int p1), .val (.int p2), .val (.int p3), .val (.int (v_rm0_0 p2)), .val (.int (v_rm0_1 p1 p2)), .val (.ref b30), .val (.long (v_rm0_2 p1 p2)), .second, .val (.int (1 : Int32)), .unset, .unset, .unset] [(.int p3), (.ref b30)])) (fun t k => XS.iloadN X32.here hx rfl (hb hby at_64) rfl k) ?_
    obtain ⟨cq45, kq45, q45a, q45b, q45c⟩ := isOf hZ rfl Eq32
    obtain ⟨_, _, ⟨T45, L45, k45, n45⟩, -, X45, ⟨Lc45, hQ45, l45, y45, z45⟩, st45⟩ := X32.virtualBack hx (y := (⟨"com/example/bipartite_map/bipartitemap/cluster/Similarity", "atLeast", "(I)Z"⟩ : MethodName)) (z := (⟨"com/example/bipartite_map/bipartitemap/cluster/Similarity", "atLeast", "(I)Z"⟩ : MethodName)) hown (mvT hZ (hw _ (List.mem_of_getElem? (i := 28) rfl))) (mvT hZ (hw _ (List.mem_of_getElem? (i := 29) rfl))) (notFace_of_selects (args := #[]) (mvT hZ (hw _ (List.mem_of_getElem? (i := 31) rfl)))) (mvT hZ (hw _ (List.mem_of_getElem? (i := 31) rfl))) (mvT hZ (hw _ (List.mem_of_getElem? (i := 30) rfl))) (by decide) (backOf (W := 0) (rm6 l Z a0 hw [] b30 p3 ((v_rm0_1 p1 p2) / (Int32.ofNat (Nat.gcd a b))) ((v_rm0_0 p2) / (Int32.ofNat (Nat.gcd a b))) T32.heap n0 Z34 Fs32 Fe32) hZ (hw _ (List.mem_of_getElem? (i := 32) rfl)) (hw _ (List.mem_of_getElem? (i := 8) rfl)) (by decide) (by decide)) q45a q45c (g := (mkF m 65 #[.val (.int p1), .val (.int p2), .val (.int p3), .val (.int (v_rm0_0 p2)), .val (.int (v_rm0_1 p1 p2)), .val (.ref b30), .val (.long (v_rm0_2 p1 p2)), .second, .val (.int (1 : Int32)), .unset, .unset, .unset] [(.int p3), (.ref b30)])) rfl (by rw [hml]; rfl) (Steps.refl _) (argsL := [(.int p3)]) (rest := []) (lenOf pd_4 rfl) rfl (by show 2 * 0 + _ ≤ _; exact Nat.le_of_eq rfl) (hb hby at_65) (fun _ _ => ⟨rfl, rfl, (by decide : 0 + 1 + 0 ≤ _), (by decide : 0 + 2 + 0 ≤ _)⟩)
    dsimp only [Pt.U, Pt.locs, Pt.cells, Pt.slots] at X45 l45 y45 z45 st45 hQ45
    subst l45 y45 z45
    obtain ⟨rfl, Nq45, hh45⟩ := hQ45
    have N46 := Fr.app N33 Nq45
    refine go _ (T45.setTop (mkF m 68 #[.val (.int p1), .val (.int p2), .val (.int p3), .val (.int (v_rm0_0 p2)), .val (.int (v_rm0_1 p1 p2)), .val (.ref b30), .val (.long (v_rm0_2 p1 p2)), .second, .val (.int (1 : Int32)), .unset, .unset, .unset] [(.int (own_al ((v_rm0_1 p1 p2) / (Int32.ofNat (Nat.gcd a b))) ((v_rm0_0 p2) / (Int32.ofNat (Nat.gcd a b))) p3))])) (fun t k => st45.trans k) ?_
    refine go _ (T45.setTop (mkF m 70 #[.val (.int p1), .val (.int p2), .val (.int p3), .val (.int (v_rm0_0 p2)), .val (.int (v_rm0_1 p1 p2)), .val (.ref b30), .val (.long (v_rm0_2 p1 p2)), .second, .val (.int (1 : Int32)), .val (.int (v_rm0_6 a b p3 p1 p2)), .unset, .unset] [])) (fun t k => XS.istore X45.here hx rfl (hb hby at_68) rfl (l' := #[.val (.int p1), .val (.int p2), .val (.int p3), .val (.int (v_rm0_0 p2)), .val (.int (v_rm0_1 p1 p2)), .val (.ref b30), .val (.long (v_rm0_2 p1 p2)), .second, .val (.int (1 : Int32)), .val (.int (v_rm0_6 a b p3 p1 p2)), .unset, .unset]) rfl k) ?_
    refine go _ (T45.setTop (mkF m 72 #[.val (.int p1), .val (.int p2), .val (.int p3), .val (.int (v_rm0_0 p2)), .val (.int (v_rm0_1 p1 p2)), .val (.ref b30), .val (.long (v_rm0_2 p1 p2)), .second, .val (.int (1 : Int32)), .val (.int (v_rm0_6 a b p3 p1 p2)), .unset, .unset] [(.ref b30)])) (fun t k => XS.aload X45.here hx rfl (hb hby at_70) rfl rfl k) ?_
    refine go _ (T45.setTop (mkF m 74 #[.val (.int p1), .val (.int p2), .val (.int p3), .val (.int (v_rm0_0 p2)), .val (.int (v_rm0_1 p1 p2)), .val (.ref b30), .val (.long (v_rm0_2 p1 p2)), .second, .val (.int (1 : Int32)), .val (.int (v_rm0_6 a b p3 p1 p2)), .unset, .unset] [(.long (v_rm0_2 p1 p2)), (.ref b30)])) (fun t k => XS.lload X45.here hx rfl (hb hby at_72) rfl k) ?_
    refine go _ (T45.setTop (mkF m 75 #[.val (.int p1), .val (.int p2), .val (.int p3), .val (.int (v_rm0_0 p2)), .val (.int (v_rm0_1 p1 p2)), .val (.ref b30), .val (.long (v_rm0_2 p1 p2)), .second, .val (.int (1 : Int32)), .val (.int (v_rm0_6 a b p3 p1 p2)), .unset, .unset] [(.int ((v_rm0_2 p1 p2).toInt32)), (.ref b30)])) (fun t k => XS.l2i X45.here hx rfl (hb hby at_74) rfl k) ?_
    obtain ⟨cq47, kq47, q47a, q47b, q47c⟩ := isOf hZ hh45 Eq32
    obtain ⟨_, _, ⟨T47, L47, k47, n47⟩, -, X47, ⟨Lc47, hQ47, l47, y47, z47⟩, st47⟩ := X45.virtualBack hx (y := (⟨"com/example/bipartite_map/bipartitemap/cluster/Similarity", "atLeast", "(I)Z"⟩ : MethodName)) (z := (⟨"com/example/bipartite_map/bipartitemap/cluster/Similarity", "atLeast", "(I)Z"⟩ : MethodName)) hown (mvT hZ (hw _ (List.mem_of_getElem? (i := 28) rfl))) (mvT hZ (hw _ (List.mem_of_getElem? (i := 29) rfl))) (notFace_of_selects (args := #[]) (mvT hZ (hw _ (List.mem_of_getElem? (i := 31) rfl)))) (mvT hZ (hw _ (List.mem_of_getElem? (i := 31) rfl))) (mvT hZ (hw _ (List.mem_of_getElem? (i := 30) rfl))) (by decide) (backOf (W := 0) (rm6 l Z a0 hw [] b30 ((v_rm0_2 p1 p2).toInt32) ((v_rm0_1 p1 p2) / (Int32.ofNat (Nat.gcd a b))) ((v_rm0_0 p2) / (Int32.ofNat (Nat.gcd a b))) T32.heap n0 Z34 Fs32 Fe32) hZ (hw _ (List.mem_of_getElem? (i := 32) rfl)) (hw _ (List.mem_of_getElem? (i := 8) rfl)) (by decide) (by decide)) q47a q47c (g := (mkF m 75 #[.val (.int p1), .val (.int p2), .val (.int p3), .val (.int (v_rm0_0 p2)), .val (.int (v_rm0_1 p1 p2)), .val (.ref b30), .val (.long (v_rm0_2 p1 p2)), .second, .val (.int (1 : Int32)), .val (.int (v_rm0_6 a b p3 p1 p2)), .unset, .unset] [(.int ((v_rm0_2 p1 p2).toInt32)), (.ref b30)])) rfl (by rw [hml]; rfl) (Steps.refl _) (argsL := [(.int ((v_rm0_2 p1 p2).toInt32))]) (rest := []) (lenOf pd_4 rfl) rfl (by show 2 * 0 + _ ≤ _; exact Nat.le_of_eq rfl) (hb hby at_75) (fun _ _ => ⟨rfl, hh45, (by decide : 0 + 1 + 0 ≤ _), (by decide : 0 + 2 + 0 ≤ _)⟩)
    dsimp only [Pt.U, Pt.locs, Pt.cells, Pt.slots] at X47 l47 y47 z47 st47 hQ47
    subst l47 y47 z47
    obtain ⟨rfl, Nq47, hh47⟩ := hQ47
    have N48 := Fr.app N46 Nq47
    refine go _ (T47.setTop (mkF m 78 #[.val (.int p1), .val (.int p2), .val (.int p3), .val (.int (v_rm0_0 p2)), .val (.int (v_rm0_1 p1 p2)), .val (.ref b30), .val (.long (v_rm0_2 p1 p2)), .second, .val (.int (1 : Int32)), .val (.int (v_rm0_6 a b p3 p1 p2)), .unset, .unset] [(.int (own_al ((v_rm0_1 p1 p2) / (Int32.ofNat (Nat.gcd a b))) ((v_rm0_0 p2) / (Int32.ofNat (Nat.gcd a b))) ((v_rm0_2 p1 p2).toInt32)))])) (fun t k => st47.trans k) ?_
    refine go _ (T47.setTop (mkF m 80 #[.val (.int p1), .val (.int p2), .val (.int p3), .val (.int (v_rm0_0 p2)), .val (.int (v_rm0_1 p1 p2)), .val (.ref b30), .val (.long (v_rm0_2 p1 p2)), .second, .val (.int (1 : Int32)), .val (.int (v_rm0_6 a b p3 p1 p2)), .val (.int (v_rm0_7 a b p1 p2)), .unset] [])) (fun t k => XS.istore X47.here hx rfl (hb hby at_78) rfl (l' := #[.val (.int p1), .val (.int p2), .val (.int p3), .val (.int (v_rm0_0 p2)), .val (.int (v_rm0_1 p1 p2)), .val (.ref b30), .val (.long (v_rm0_2 p1 p2)), .second, .val (.int (1 : Int32)), .val (.int (v_rm0_6 a b p3 p1 p2)), .val (.int (v_rm0_7 a b p1 p2)), .unset]) rfl k) ?_
    refine go _ (T47.setTop (mkF m 82 #[.val (.int p1), .val (.int p2), .val (.int p3), .val (.int (v_rm0_0 p2)), .val (.int (v_rm0_1 p1 p2)), .val (.ref b30), .val (.long (v_rm0_2 p1 p2)), .second, .val (.int (1 : Int32)), .val (.int (v_rm0_6 a b p3 p1 p2)), .val (.int (v_rm0_7 a b p1 p2)), .unset] [(.ref b30)])) (fun t k => XS.aload X47.here hx rfl (hb hby at_80) rfl rfl k) ?_
    refine go _ (T47.setTop (mkF m 84 #[.val (.int p1), .val (.int p2), .val (.int p3), .val (.int (v_rm0_0 p2)), .val (.int (v_rm0_1 p1 p2)), .val (.ref b30), .val (.long (v_rm0_2 p1 p2)), .second, .val (.int (1 : Int32)), .val (.int (v_rm0_6 a b p3 p1 p2)), .val (.int (v_rm0_7 a b p1 p2)), .unset] [(.long (v_rm0_2 p1 p2)), (.ref b30)])) (fun t k => XS.lload X47.here hx rfl (hb hby at_82) rfl k) ?_
    refine go _ (T47.setTop (mkF m 85 #[.val (.int p1), .val (.int p2), .val (.int p3), .val (.int (v_rm0_0 p2)), .val (.int (v_rm0_1 p1 p2)), .val (.ref b30), .val (.long (v_rm0_2 p1 p2)), .second, .val (.int (1 : Int32)), .val (.int (v_rm0_6 a b p3 p1 p2)), .val (.int (v_rm0_7 a b p1 p2)), .unset] [(.int ((v_rm0_2 p1 p2).toInt32)), (.ref b30)])) (fun t k => XS.l2i X47.here hx rfl (hb hby at_84) rfl k) ?_
    refine go _ (T47.setTop (mkF m 86 #[.val (.int p1), .val (.int p2), .val (.int p3), .val (.int (v_rm0_0 p2)), .val (.int (v_rm0_1 p1 p2)), .val (.ref b30), .val (.long (v_rm0_2 p1 p2)), .second, .val (.int (1 : Int32)), .val (.int (v_rm0_6 a b p3 p1 p2)), .val (.int (v_rm0_7 a b p1 p2)), .unset] [(.int (1 : Int32)), (.int ((v_rm0_2 p1 p2).toInt32)), (.ref b30)])) (fun t k => XS.iconst X47.here hx rfl (hb hby at_85) k) ?_
    refine go _ (T47.setTop (mkF m 87 #[.val (.int p1), .val (.int p2), .val (.int p3), .val (.int (v_rm0_0 p2)), .val (.int (v_rm0_1 p1 p2)), .val (.ref b30), .val (.long (v_rm0_2 p1 p2)), .second, .val (.int (1 : Int32)), .val (.int (v_rm0_6 a b p3 p1 p2)), .val (.int (v_rm0_7 a b p1 p2)), .unset] [(.int (((v_rm0_2 p1 p2).toInt32) + (1 : Int32))), (.ref b30)])) (fun t k => XS.iadd X47.here hx rfl (hb hby at_86) rfl k) ?_
    obtain ⟨cq49, kq49, q49a, q49b, q49c⟩ := isOf hZ hh47 Eq32
    obtain ⟨_, _, ⟨T49, L49, k49, n49⟩, -, X49, ⟨Lc49, hQ49, l49, y49, z49⟩, st49⟩ := X47.virtualBack hx (y := (⟨"com/example/bipartite_map/bipartitemap/cluster/Similarity", "atLeast", "(I)Z"⟩ : MethodName)) (z := (⟨"com/example/bipartite_map/bipartitemap/cluster/Similarity", "atLeast", "(I)Z"⟩ : MethodName)) hown (mvT hZ (hw _ (List.mem_of_getElem? (i := 28) rfl))) (mvT hZ (hw _ (List.mem_of_getElem? (i := 29) rfl))) (notFace_of_selects (args := #[]) (mvT hZ (hw _ (List.mem_of_getElem? (i := 31) rfl)))) (mvT hZ (hw _ (List.mem_of_getElem? (i := 31) rfl))) (mvT hZ (hw _ (List.mem_of_getElem? (i := 30) rfl))) (by decide) (backOf (W := 0) (rm6 l Z a0 hw [] b30 (((v_rm0_2 p1 p2).toInt32) + (1 : Int32)) ((v_rm0_1 p1 p2) / (Int32.ofNat (Nat.gcd a b))) ((v_rm0_0 p2) / (Int32.ofNat (Nat.gcd a b))) T32.heap n0 Z34 Fs32 Fe32) hZ (hw _ (List.mem_of_getElem? (i := 32) rfl)) (hw _ (List.mem_of_getElem? (i := 8) rfl)) (by decide) (by decide)) q49a q49c (g := (mkF m 87 #[.val (.int p1), .val (.int p2), .val (.int p3), .val (.int (v_rm0_0 p2)), .val (.int (v_rm0_1 p1 p2)), .val (.ref b30), .val (.long (v_rm0_2 p1 p2)), .second, .val (.int (1 : Int32)), .val (.int (v_rm0_6 a b p3 p1 p2)), .val (.int (v_rm0_7 a b p1 p2)), .unset] [(.int (((v_rm0_2 p1 p2).toInt32) + (1 : Int32))), (.ref b30)])) rfl (by rw [hml]; rfl) (Steps.refl _) (argsL := [(.int (((v_rm0_2 p1 p2).toInt32) + (1 : Int32)))]) (rest := []) (lenOf pd_4 rfl) rfl (by show 2 * 0 + _ ≤ _; exact Nat.le_of_eq rfl) (hb hby at_87) (fun _ _ => ⟨rfl, hh47, (by decide : 0 + 1 + 0 ≤ _), (by decide : 0 + 2 + 0 ≤ _)⟩)
    dsimp only [Pt.U, Pt.locs, Pt.cells, Pt.slots] at X49 l49 y49 z49 st49 hQ49
    subst l49 y49 z49
    obtain ⟨rfl, Nq49, hh49⟩ := hQ49
    have N50 := Fr.app N48 Nq49
    refine go _ (T49.setTop (mkF m 90 #[.val (.int p1), .val (.int p2), .val (.int p3), .val (.int (v_rm0_0 p2)), .val (.int (v_rm0_1 p1 p2)), .val (.ref b30), .val (.long (v_rm0_2 p1 p2)), .second, .val (.int (1 : Int32)), .val (.int (v_rm0_6 a b p3 p1 p2)), .val (.int (v_rm0_7 a b p1 p2)), .unset] [(.int (own_al ((v_rm0_1 p1 p2) / (Int32.ofNat (Nat.gcd a b))) ((v_rm0_0 p2) / (Int32.ofNat (Nat.gcd a b))) (((v_rm0_2 p1 p2).toInt32) + (1 : Int32))))])) (fun t k => st49.trans k) ?_
    refine go _ (T49.setTop (mkF m 92 #[.val (.int p1), .val (.int p2), .val (.int p3), .val (.int (v_rm0_0 p2)), .val (.int (v_rm0_1 p1 p2)), .val (.ref b30), .val (.long (v_rm0_2 p1 p2)), .second, .val (.int (1 : Int32)), .val (.int (v_rm0_6 a b p3 p1 p2)), .val (.int (v_rm0_7 a b p1 p2)), .val (.int (v_rm0_8 a b p1 p2))] [])) (fun t k => XS.istore X49.here hx rfl (hb hby at_90) rfl (l' := #[.val (.int p1), .val (.int p2), .val (.int p3), .val (.int (v_rm0_0 p2)), .val (.int (v_rm0_1 p1 p2)), .val (.ref b30), .val (.long (v_rm0_2 p1 p2)), .second, .val (.int (1 : Int32)), .val (.int (v_rm0_6 a b p3 p1 p2)), .val (.int (v_rm0_7 a b p1 p2)), .val (.int (v_rm0_8 a b p1 p2))]) rfl k) ?_
    refine go _ (T49.setTop (mkF m 94 #[.val (.int p1), .val (.int p2), .val (.int p3), .val (.int (v_rm0_0 p2)), .val (.int (v_rm0_1 p1 p2)), .val (.ref b30), .val (.long (v_rm0_2 p1 p2)), .second, .val (.int (1 : Int32)), .val (.int (v_rm0_6 a b p3 p1 p2)), .val (.int (v_rm0_7 a b p1 p2)), .val (.int (v_rm0_8 a b p1 p2))] [(.int (v_rm0_6 a b p3 p1 p2))])) (fun t k => XS.iload X49.here hx rfl (hb hby at_92) rfl k) ?_
    refine go _ (T49.setTop (mkF m 96 #[.val (.int p1), .val (.int p2), .val (.int p3), .val (.int (v_rm0_0 p2)), .val (.int (v_rm0_1 p1 p2)), .val (.ref b30), .val (.long (v_rm0_2 p1 p2)), .second, .val (.int (1 : Int32)), .val (.int (v_rm0_6 a b p3 p1 p2)), .val (.int (v_rm0_7 a b p1 p2)), .val (.int (v_rm0_8 a b p1 p2))] [(.int (1 : Int32)), (.int (v_rm0_6 a b p3 p1 p2))])) (fun t k => XS.iload X49.here hx rfl (hb hby at_94) rfl k) ?_
    have hc51 : ((v_rm0_6 a b p3 p1 p2) = (1 : Int32)) := own_o1 ha hB h1 hab hc35
    refine go _ (T49.setTop (mkF m 99 #[.val (.int p1), .val (.int p2), .val (.int p3), .val (.int (v_rm0_0 p2)), .val (.int (v_rm0_1 p1 p2)), .val (.ref b30), .val (.long (v_rm0_2 p1 p2)), .second, .val (.int (1 : Int32)), .val (.int (v_rm0_6 a b p3 p1 p2)), .val (.int (v_rm0_7 a b p1 p2)), .val (.int (v_rm0_8 a b p1 p2))] [])) (fun t k => XS.icmpNo X49.here hx rfl (hb hby at_96) rfl (teq hc51).2 k) ?_
    refine go _ (T49.setTop (mkF m 101 #[.val (.int p1), .val (.int p2), .val (.int p3), .val (.int (v_rm0_0 p2)), .val (.int (v_rm0_1 p1 p2)), .val (.ref b30), .val (.long (v_rm0_2 p1 p2)), .second, .val (.int (1 : Int32)), .val (.int (v_rm0_6 a b p3 p1 p2)), .val (.int (v_rm0_7 a b p1 p2)), .val (.int (v_rm0_8 a b p1 p2))] [(.int (v_rm0_7 a b p1 p2))])) (fun t k => XS.iload X49.here hx rfl (hb hby at_99) rfl k) ?_
    have hc52 : ¬ ((v_rm0_7 a b p1 p2) = (0 : Int32)) := own_o2 ha hB h1 hab
    refine go _ (T49.setTop (mkF m 104 #[.val (.int p1), .val (.int p2), .val (.int p3), .val (.int (v_rm0_0 p2)), .val (.int (v_rm0_1 p1 p2)), .val (.ref b30), .val (.long (v_rm0_2 p1 p2)), .second, .val (.int (1 : Int32)), .val (.int (v_rm0_6 a b p3 p1 p2)), .val (.int (v_rm0_7 a b p1 p2)), .val (.int (v_rm0_8 a b p1 p2))] [])) (fun t k => XS.ifNo X49.here hx rfl (hb hby at_101) rfl ((if0 _ _).trans (feq hc52).1) k) ?_
    refine go _ (T49.setTop (mkF m 106 #[.val (.int p1), .val (.int p2), .val (.int p3), .val (.int (v_rm0_0 p2)), .val (.int (v_rm0_1 p1 p2)), .val (.ref b30), .val (.long (v_rm0_2 p1 p2)), .second, .val (.int (1 : Int32)), .val (.int (v_rm0_6 a b p3 p1 p2)), .val (.int (v_rm0_7 a b p1 p2)), .val (.int (v_rm0_8 a b p1 p2))] [(.int (v_rm0_8 a b p1 p2))])) (fun t k => XS.iload X49.here hx rfl (hb hby at_104) rfl k) ?_
    have hc53 : ((v_rm0_8 a b p1 p2) = (0 : Int32)) := own_o3 ha hB h1 hab
    refine go _ (T49.setTop (mkF m 109 #[.val (.int p1), .val (.int p2), .val (.int p3), .val (.int (v_rm0_0 p2)), .val (.int (v_rm0_1 p1 p2)), .val (.ref b30), .val (.long (v_rm0_2 p1 p2)), .second, .val (.int (1 : Int32)), .val (.int (v_rm0_6 a b p3 p1 p2)), .val (.int (v_rm0_7 a b p1 p2)), .val (.int (v_rm0_8 a b p1 p2))] [])) (fun t k => XS.ifNo X49.here hx rfl (hb hby at_106) rfl ((if0 _ _).trans (teq hc53).2) k) ?_
    refine go _ (T49.setTop (mkF m 110 #[.val (.int p1), .val (.int p2), .val (.int p3), .val (.int (v_rm0_0 p2)), .val (.int (v_rm0_1 p1 p2)), .val (.ref b30), .val (.long (v_rm0_2 p1 p2)), .second, .val (.int (1 : Int32)), .val (.int (v_rm0_6 a b p3 p1 p2)), .val (.int (v_rm0_7 a b p1 p2)), .val (.int (v_rm0_8 a b p1 p2))] [(.int (1 : Int32))])) (fun t k => XS.iconst X49.here hx rfl (hb hby at_109) k) ?_
    refine go _ (T49.setTop (mkF m 114 #[.val (.int p1), .val (.int p2), .val (.int p3), .val (.int (v_rm0_0 p2)), .val (.int (v_rm0_1 p1 p2)), .val (.ref b30), .val (.long (v_rm0_2 p1 p2)), .second, .val (.int (1 : Int32)), .val (.int (v_rm0_6 a b p3 p1 p2)), .val (.int (v_rm0_7 a b p1 p2)), .val (.int (v_rm0_8 a b p1 p2))] [(.int (1 : Int32))])) (fun t k => XS.goto X49.here hx rfl (pc0 := 110) (pc' := 114) rfl (hb hby at_110) (by decide) (by decide) k) ?_
    exact fin (some (.int (1 : Int32))) X49 (by decide) (by decide) (fun q => by cases q) (show Q_rm0 Z p1 p2 p3 h0 n0 _ T49.heap _ from (by rw [hh49]; exact ⟨rfl, N50⟩)) (fun fs hr => retN X49 hx (t := .boolean) hret (by simp) (hb hby at_114) hr)
set_option maxRecDepth 65536 in
set_option maxHeartbeats 40000000 in
theorem comes_1 {Post : Tables → Env → Array Value → State → Outcome → State → Prop} (hpost : ∀ tb e args s v u, (limb_1_1.after args s (.returned v) u = true ∧ limb_1_2.after args s (.returned v) u = true ∧ True) → FrameEnd s (.returned v) u (Jvm.fieldLocs frame_1_writes args s ++ Jvm.arrayLocs frame_1_arrays args s ++ Jvm.staticLocs frame_1_statics s) 16 128 → Post tb e args s (.returned v) u) :
    ArmFor flags0 classFile x code maxLocals ret World_1 tables_1 room_1 Calls_1 rest_1 Pre_1 Post := by
  intro l hfl _ _ p e ha hc hk s m args below hf hA hF happ hP
  obtain ⟨hcalls, hrest, hpre⟩ := hP
  obtain ⟨-, -, -, hnamed, -, -, -, hat⟩ := (Spec.applies_iff hf).mp happ
  obtain ⟨hg, hn⟩ := and_e (Cond.before_iff.mp (show (Jvm.Cond.and given_1 narrow_1).before args s = true from hpre))
  obtain ⟨gc, g1⟩ := and_e hg
  obtain ⟨ga0, g2⟩ := and_e g1
  obtain ⟨ga1, g3⟩ := and_e g2
  have ga2 := g3
  obtain ⟨w0, w1, w2, rfl⟩ : ∃ w0 w1 w2 : Value, args = #[w0, w1, w2] := by
    have hs : args.size = 3 := by simpa [Cond.value, given_1] using gc
    obtain ⟨L⟩ := args
    match L, hs with
    | [w0, w1, w2], _ => exact ⟨w0, w1, w2, rfl⟩
  have hw := fun d (hd : d ∈ tables_1) => atoms_spec (ws := Jvm.Cond.code x code maxLocals ret :: tables_1) hat d (List.mem_cons_of_mem _ hd)
  obtain ⟨i0, ei0⟩ := is_v ga0
  obtain rfl : w0 = (.int i0) := Option.some.inj ei0
  obtain ⟨i1, ei1⟩ := is_v ga1
  obtain rfl : w1 = (.int i1) := Option.some.inj ei1
  obtain ⟨i2, ei2⟩ := is_v ga2
  obtain rfl : w2 = (.int i2) := Option.some.inj ei2
  obtain ⟨n, o, h1, h2, h3, _, L, rfl, ⟨rfl, N⟩, hq⟩ := rm0 l s _ hw tables_1 i0 i1 i2 s.heap s.heap.size (Nat.le_refl _) p e ha hc hk s m _ below hf ((Spec.applies_iff_loose hf).mp happ).1 ⟨rfl, State.Warmed39.refl s, rfl⟩ trivial
  refine ⟨n, _, h1, h2, h3, hpost _ _ _ _ _ _ ⟨Cond.after_iff.mpr rfl, Cond.after_iff.mpr (eq_i res_at (Term.int_eval (1)) rfl), trivial⟩ ⟨hq.1, hq.2.1, (hq.2.2.sift fun y hy => Or.inr (N y hy)).mono (by decide) (by decide)⟩⟩
theorem main_1_1 : Claimed_1_1 := comes_1 fun _ _ _ _ _ _ h hF => ⟨h.1, hF⟩
theorem main_1_2 : Claimed_1_2 := comes_1 fun _ _ _ _ _ _ h hF => ⟨h.2.1, hF⟩
end Jvm.Pilot.@@N@@
namespace Jvm.Pilot.@@N@@
open Jvm Jvm.ClassFile Sem Op Lib Jvm.Free Jvm.Stand Jvm.Pilot.@@N@@.Jvm.D
/-! MADE BY PROGRAM (witnessworld.py) out of the Statement's table words and the real class files: 12 classes; the members and pool entries that the words name. The judged class is class 1, her method 1. -/
namespace start1
open Jvm.ClassFile
def u (s : String) : CpInfo := .utf8 (stringToUtf16 s)
/-- a pool by its gaps: so many unusable entries, then the entry; so many at the end -/
def gap : Nat → List CpInfo → List CpInfo
  | 0, r => r
  | n + 1, r => .unusable :: gap n r
def poolList (es : List (Nat × CpInfo)) (last : Nat) : List CpInfo := es.foldr (fun e r => gap e.1 (e.2 :: r)) (gap last [])
def pool (es : List (Nat × CpInfo)) (last : Nat) : Array CpInfo := ⟨poolList es last⟩
def fileOf (pool : Array CpInfo) (this : Nat) (attrs : Array Attribute := #[]) (ms : Array MethodInfo := #[]) (fl : Nat := 33) (sup : Nat := 0) (ifs : Array Nat := #[]) (fds : Array FieldInfo := #[]) : ClassFile where
  minorVersion := 0
  majorVersion := 65
  constantPool := pool
  accessFlags := fl
  thisClass := this
  superClass := sup
  interfaces := ifs
  fields := fds
  methods := ms
  attributes := attrs
def plain (name : String) (sup : Option ClassId) : Class where
  name := name
  kind := .ordinary
  loader := none
  accessFlags := 33
  super := sup
  interfaces := #[]
  cf := none
  fields := #[]
  methods := #[]
  instanceTypes := #[]
  staticTypes := #[]
  resolved := #[]
  callSites := []
  init := .initialized
  statics := none
  mirror := none

def pool0 : Array CpInfo := pool [(5, u "<init>"), (0, u "()V"), (1, .class_ 10), (1, u "java/lang/Object")] 113

def k0c0 : Code := { maxStack := 0, maxLocals := 1, code := object_method_1_code, exceptionTable := #[], attributes := #[] }
def k0m0 : Method := { name := "<init>", desc := "()V", sig := { parameters := [], returnType := none }, accessFlags := 1, code := some k0c0 }
/-- java/lang/Object -/
def k0 : Class := { plain "java/lang/Object" none with
  accessFlags := 33
  interfaces := #[]
  cf := some (fileOf pool0 8 #[] #[{ accessFlags := 1, nameIndex := 5, descriptorIndex := 6, attributes := #[] }] 33 0 #[] #[])
  fields := #[]
  methods := #[k0m0]
  instanceTypes := #[]
  staticTypes := #[]
  resolved := Array.replicate 124 none
  statics := none }

def pool1 : Array CpInfo := pool [(2, .class_ 4), (1, u "java/lang/Object"), (0, u "<init>"), (0, u "()V"), (0, .integer 2147483647), (0, .methodref 9 10), (0, .class_ 11), (0, .nameAndType 12 13), (0, u "java/lang/Math"), (0, u "max"), (0, u "(II)I"), (0, .long 2147483647), (1, .class_ 17), (0, u "com/example/bipartite_map/bipartitemap/cluster/Similarity"), (0, .methodref 16 19), (0, .nameAndType 5 20), (0, u "(II)V"), (0, .long 100), (1, .methodref 16 24), (0, .nameAndType 25 26), (0, u "atLeast"), (0, u "(I)Z"), (0, .class_ 28), (0, u "com/example/bipartite_map/bipartitemap/cluster/SimilarityAtLeastPinLaw"), (2, u "law"), (0, u "(III)Z")] 3

def k1m0 : Method := { name := "<init>", desc := "()V", sig := { parameters := [], returnType := none }, accessFlags := 1, code := none }
def k1c1 : Code := { maxStack := 6, maxLocals := 12, code := code, exceptionTable := #[], attributes := #[] }
def k1m1 : Method := { name := "law", desc := "(III)Z", sig := { parameters := [.int, .int, .int], returnType := some .boolean }, accessFlags := 9, code := some k1c1 }
/-- com/example/bipartite_map/bipartitemap/cluster/SimilarityAtLeastPinLaw -/
def k1 : Class := { plain "com/example/bipartite_map/bipartitemap/cluster/SimilarityAtLeastPinLaw" (some 0) with
  accessFlags := 49
  interfaces := #[]
  cf := some (fileOf pool1 27 #[] #[{ accessFlags := 1, nameIndex := 5, descriptorIndex := 6, attributes := #[] }, { accessFlags := 9, nameIndex := 31, descriptorIndex := 32, attributes := #[] }] 49 2 #[] #[])
  fields := #[]
  methods := #[k1m0, k1m1]
  instanceTypes := #[]
  staticTypes := #[]
  resolved := Array.replicate 36 none
  statics := none }

def pool2 : Array CpInfo := pool [(1, .class_ 2), (0, u "java/lang/Math"), (1, .class_ 6), (1, u "java/lang/Object"), (0, u "<init>"), (0, u "()V"), (89, .class_ 100), (1, u "java/lang/Math$RandomNumberGeneratorHolder"), (71, u "negativeZeroFloatBits"), (0, u "J"), (2, u "negativeZeroDoubleBits"), (21, u "max"), (46, u "$assertionsDisabled"), (0, u "Z"), (88, u "(II)I"), (2, u "twoToTheDoubleScaleDown"), (0, u "D"), (4, u "twoToTheDoubleScaleUp"), (9, u "E"), (3, u "PI"), (2, u "TAU"), (2, u "DEGREES_TO_RADIANS"), (0, u "RADIANS_TO_DEGREES")] 94

def k2m0 : Method := { name := "<init>", desc := "()V", sig := { parameters := [], returnType := none }, accessFlags := 2, code := none }
def k2c1 : Code := { maxStack := 2, maxLocals := 2, code := jdk_29_method_65_code, exceptionTable := #[], attributes := #[] }
def k2m1 : Method := { name := "max", desc := "(II)I", sig := { parameters := [.int, .int], returnType := some .int }, accessFlags := 9, code := some k2c1 }
/-- java/lang/Math -/
def k2 : Class := { plain "java/lang/Math" (some 0) with
  accessFlags := 49
  interfaces := #[]
  cf := some (fileOf pool2 1 #[.nestMembers #[98]] #[{ accessFlags := 2, nameIndex := 7, descriptorIndex := 8, attributes := #[] }, { accessFlags := 9, nameIndex := 198, descriptorIndex := 335, attributes := #[] }] 49 4 #[] #[{ accessFlags := 25, nameIndex := 354, descriptorIndex := 339, attributes := #[] }, { accessFlags := 25, nameIndex := 358, descriptorIndex := 339, attributes := #[] }, { accessFlags := 25, nameIndex := 361, descriptorIndex := 339, attributes := #[] }, { accessFlags := 26, nameIndex := 364, descriptorIndex := 339, attributes := #[] }, { accessFlags := 26, nameIndex := 365, descriptorIndex := 339, attributes := #[] }, { accessFlags := 26, nameIndex := 172, descriptorIndex := 173, attributes := #[] }, { accessFlags := 26, nameIndex := 176, descriptorIndex := 173, attributes := #[] }, { accessFlags := 8, nameIndex := 344, descriptorIndex := 339, attributes := #[] }, { accessFlags := 8, nameIndex := 338, descriptorIndex := 339, attributes := #[] }, { accessFlags := 4120, nameIndex := 245, descriptorIndex := 246, attributes := #[] }])
  fields := #[{ name := "E", type := .double, accessFlags := 25, slot := 0, constantValue := 0 }, { name := "PI", type := .double, accessFlags := 25, slot := 1, constantValue := 0 }, { name := "TAU", type := .double, accessFlags := 25, slot := 2, constantValue := 0 }, { name := "DEGREES_TO_RADIANS", type := .double, accessFlags := 26, slot := 3, constantValue := 0 }, { name := "RADIANS_TO_DEGREES", type := .double, accessFlags := 26, slot := 4, constantValue := 0 }, { name := "negativeZeroFloatBits", type := .long, accessFlags := 26, slot := 5, constantValue := 0 }, { name := "negativeZeroDoubleBits", type := .long, accessFlags := 26, slot := 6, constantValue := 0 }, { name := "twoToTheDoubleScaleUp", type := .double, accessFlags := 8, slot := 7, constantValue := 0 }, { name := "twoToTheDoubleScaleDown", type := .double, accessFlags := 8, slot := 8, constantValue := 0 }, { name := "$assertionsDisabled", type := .boolean, accessFlags := 4120, slot := 9, constantValue := 0 }]
  methods := #[k2m0, k2m1]
  instanceTypes := #[]
  staticTypes := #[.double, .double, .double, .double, .double, .long, .long, .double, .double, .boolean]
  resolved := Array.replicate 460 none
  statics := none }

def pool3 : Array CpInfo := pool [(1, .methodref 2 3), (0, .class_ 4), (0, .nameAndType 5 6), (0, u "java/lang/Object"), (0, u "<init>"), (0, u "()V"), (0, .class_ 8), (0, u "java/lang/Record")] 13

def k3c0 : Code := { maxStack := 1, maxLocals := 1, code := jdk_30_method_1_code, exceptionTable := #[], attributes := #[] }
def k3m0 : Method := { name := "<init>", desc := "()V", sig := { parameters := [], returnType := none }, accessFlags := 4, code := some k3c0 }
/-- java/lang/Record -/
def k3 : Class := { plain "java/lang/Record" (some 0) with
  accessFlags := 1057
  interfaces := #[]
  cf := some (fileOf pool3 7 #[] #[{ accessFlags := 4, nameIndex := 5, descriptorIndex := 6, attributes := #[] }] 1057 2 #[] #[])
  fields := #[]
  methods := #[k3m0]
  instanceTypes := #[]
  staticTypes := #[]
  resolved := Array.replicate 22 none
  statics := none }

def pool4 : Array CpInfo := pool [(1, .class_ 2), (0, u "java/lang/Comparable"), (0, .class_ 4), (0, u "java/lang/Object")] 7

/-- java/lang/Comparable -/
def k4 : Class := { plain "java/lang/Comparable" (some 0) with
  accessFlags := 1537
  interfaces := #[]
  cf := some (fileOf pool4 1 #[] #[] 1537 3 #[] #[])
  fields := #[]
  methods := #[]
  instanceTypes := #[]
  staticTypes := #[]
  resolved := Array.replicate 12 none
  statics := none }

def pool5 : Array CpInfo := pool [(1, .methodref 2 3), (0, .class_ 4), (0, .nameAndType 5 6), (0, u "java/lang/Record"), (0, u "<init>"), (0, u "()V"), (9, .methodref 17 18), (0, .class_ 19), (0, .nameAndType 20 21), (0, u "com/example/bipartite_map/bipartitemap/cluster/Similarity"), (0, u "gcd"), (0, u "(II)I"), (0, .fieldref 17 23), (0, .nameAndType 24 25), (0, u "shared"), (0, u "I"), (0, .fieldref 17 27), (0, .nameAndType 28 25), (0, u "either"), (0, .long 100), (35, .class_ 66), (0, u "java/lang/Comparable"), (0, u "MOST_THRESHOLD"), (2, u "(II)V"), (4, u "atLeast"), (0, u "(I)Z")] 42

def k5c0 : Code := { maxStack := 4, maxLocals := 4, code := prog_13_method_1_code, exceptionTable := #[], attributes := #[] }
def k5m0 : Method := { name := "<init>", desc := "(II)V", sig := { parameters := [.int, .int], returnType := none }, accessFlags := 1, code := some k5c0 }
def k5c1 : Code := { maxStack := 6, maxLocals := 2, code := prog_13_method_2_code, exceptionTable := #[], attributes := #[] }
def k5m1 : Method := { name := "atLeast", desc := "(I)Z", sig := { parameters := [.int], returnType := some .boolean }, accessFlags := 1, code := some k5c1 }
def k5c2 : Code := { maxStack := 2, maxLocals := 5, code := prog_13_method_6_code, exceptionTable := #[], attributes := #[] }
def k5m2 : Method := { name := "gcd", desc := "(II)I", sig := { parameters := [.int, .int], returnType := some .int }, accessFlags := 10, code := some k5c2 }
/-- com/example/bipartite_map/bipartitemap/cluster/Similarity -/
def k5 : Class := { plain "com/example/bipartite_map/bipartitemap/cluster/Similarity" (some 3) with
  accessFlags := 49
  interfaces := #[4]
  cf := some (fileOf pool5 17 #[] #[{ accessFlags := 1, nameIndex := 5, descriptorIndex := 70, attributes := #[] }, { accessFlags := 1, nameIndex := 75, descriptorIndex := 76, attributes := #[] }, { accessFlags := 10, nameIndex := 20, descriptorIndex := 21, attributes := #[] }] 49 2 #[65] #[{ accessFlags := 18, nameIndex := 24, descriptorIndex := 25, attributes := #[] }, { accessFlags := 18, nameIndex := 28, descriptorIndex := 25, attributes := #[] }, { accessFlags := 25, nameIndex := 67, descriptorIndex := 25, attributes := #[] }])
  fields := #[{ name := "shared", type := .int, accessFlags := 18, slot := 0, constantValue := 0 }, { name := "either", type := .int, accessFlags := 18, slot := 1, constantValue := 0 }, { name := "MOST_THRESHOLD", type := .int, accessFlags := 25, slot := 0, constantValue := 0 }]
  methods := #[k5m0, k5m1, k5m2]
  instanceTypes := #[.int, .int]
  staticTypes := #[.int]
  resolved := Array.replicate 119 none
  statics := none }

def pool6 : Array CpInfo := pool [(1, u "java/lang/Cloneable"), (0, .class_ 1), (0, u "java/lang/Object"), (0, .class_ 3)] 3

/-- java/lang/Cloneable -/
def k6 : Class := { plain "java/lang/Cloneable" (some 0) with
  accessFlags := 1537
  interfaces := #[]
  cf := some (fileOf pool6 2 #[] #[] 1537 4 #[] #[])
  fields := #[]
  methods := #[]
  instanceTypes := #[]
  staticTypes := #[]
  resolved := Array.replicate 8 none
  statics := none }

def pool7 : Array CpInfo := pool [(1, u "java/io/Serializable"), (0, .class_ 1), (0, u "java/lang/Object"), (0, .class_ 3)] 3

/-- java/io/Serializable -/
def k7 : Class := { plain "java/io/Serializable" (some 0) with
  accessFlags := 1537
  interfaces := #[]
  cf := some (fileOf pool7 2 #[] #[] 1537 4 #[] #[])
  fields := #[]
  methods := #[]
  instanceTypes := #[]
  staticTypes := #[]
  resolved := Array.replicate 8 none
  statics := none }

/-- the primitive byte -/
def k8 : Class := { plain "byte" none with kind := .primitive 'B', accessFlags := 0x411 }
/-- [B -/
def k9 : Class := { plain "[B" (some 0) with kind := .array 8 .byte, interfaces := #[6, 7], accessFlags := 1041 }

/-- the primitive int -/
def k10 : Class := { plain "int" none with kind := .primitive 'I', accessFlags := 0x411 }
/-- [I -/
def k11 : Class := { plain "[I" (some 0) with kind := .array 10 .int, interfaces := #[6, 7], accessFlags := 1041 }

def heap : Heap := #[]
def classes : Array Class := #[k0, k1, k2, k3, k4, k5, k6, k7, k8, k9, k10, k11]
def interned : List (Array UInt16 × Addr) := []
def slotsUsed : Nat := 0
def theMethod : MethodId := ⟨1, 1⟩
def args0 : Array Value := #[.int 5, .int 61, .int 3]
def aboutOver (below : List Frame) : State where
  vm := { classes := classes, interned := interned.toArray }
  heap := heap
  slotsUsed := slotsUsed
  threads := #[{ frames := .invoking theMethod args0 :: below }]
def below0 : List Frame := [.native { method := ⟨0, 0⟩, args := #[] }]
def about1 : State := aboutOver below0
def p0 : Program := .bare "" "" ""
def e0 : Env := launch0.env 0 0 0
theorem w_frames : about1.frames = Frame.invoking theMethod args0 :: below0 := rfl
set_option maxRecDepth 65536 in
theorem w_args : argsFit about1.vm theMethod args0 = true := by decide +kernel
set_option maxRecDepth 65536 in
theorem w_heap : heapFits about1 = true := by decide +kernel
set_option maxRecDepth 65536 in
theorem w_runnable : about1.curStatus? = some .runnable := by decide +kernel
set_option maxRecDepth 65536 in
theorem w_alone : about1.alone = true := by decide +kernel
set_option maxRecDepth 65536 in
theorem w_named : about1.methodNamed? x = some theMethod := by decide +kernel
set_option maxRecDepth 65536 in
theorem w_hears : about1.hears theMethod below0 = true := by decide +kernel
set_option maxRecDepth 65536 in
theorem w_ripe : about1.ripe theMethod args0 below0 = true := by decide +kernel
theorem w_running : about1.status = .running := rfl
set_option maxRecDepth 65536 in
theorem w_room : about1.hasRoom e0.platform room_1 = true :=
  launch0.hasRoom_least _ room_1 (by decide +kernel) (by decide +kernel) (by decide +kernel) (by decide +kernel) (by decide +kernel) (by decide +kernel)
theorem allAtoms_all (ts : List Jvm.Cond) (a : Array Jvm.Value) (st : Jvm.State) : (allAtoms ts).before a st = ts.all (fun c => c.before a st) := by
  induction ts with
  | nil => rfl
  | cons c t ih =>
    show (Jvm.Cond.and c (allAtoms t)).before a st = _
    rw [Jvm.Cond.before_and, ih, List.all_cons]
def words1 : List Jvm.Cond := Jvm.Cond.code x code maxLocals ret :: tables_1
/-- a 'code' word, met by the world's own term for the bytes: nothing is compared byte by byte -/
theorem code_word {y : MethodName} {bytes : ByteArray} {mx : Nat} {rt : Option FieldType} {a : Array Value} {s : State} {m : MethodId} {meth : Method} {c : Code} (h1 : s.methodNamed? y = some m) (h2 : s.vm.method? m = some meth) (h3 : meth.code = some c) (h4 : c.code = bytes)
    (h5 : (c.maxLocals == mx && c.exceptionTable.isEmpty && decide (c.maxStack ≤ mostOperands) && decide (meth.sig.returnType = rt) && !meth.locks && decide (parseMethodDescriptor y.desc = some meth.sig)) = true) : (Jvm.Cond.code y bytes mx rt).before a s = true := by
  simp only [Bool.and_eq_true, beq_iff_eq, Bool.not_eq_true', decide_eq_true_eq] at h5
  obtain ⟨⟨⟨⟨⟨g1, g2⟩, g3⟩, g4⟩, g5⟩, g6⟩ := h5
  simp [Cond.before, Cond.holds, Cond.value, h1, h2, h3, h4, g1, g2, g3, g4, g5, g6]
def isCode : Jvm.Cond → Bool
  | .code _ _ _ _ => true
  | _ => false
theorem all_split {L : List Jvm.Cond} {P : Jvm.Cond → Bool} (h1 : L.all (fun c => isCode c || P c) = true) (h2 : ∀ c ∈ L.filter isCode, P c = true) : L.all P = true := by
  refine List.all_eq_true.mpr fun c hc => ?_
  have h := List.all_eq_true.mp h1 c hc
  rcases Bool.eq_false_or_eq_true (isCode c) with hi | hi
  · exact h2 c (List.mem_filter.mpr ⟨hc, hi⟩)
  · simpa [hi] using h
set_option maxRecDepth 65536 in
theorem w_c0 : (Jvm.Cond.code x code maxLocals ret).before args0 about1 = true := code_word (m := ⟨1, 1⟩) (meth := k1m1) (c := k1c1) (by decide +kernel) rfl rfl rfl (by decide +kernel)
set_option maxRecDepth 65536 in
theorem w_c1 : (Jvm.Cond.code ({ cls := "java/lang/Math", name := "max", desc := "(II)I" } : Jvm.MethodName) jdk_29_method_65_code (2 : Nat) (Option.some Jvm.ClassFile.FieldType.int)).before args0 about1 = true := code_word (m := ⟨2, 1⟩) (meth := k2m1) (c := k2c1) (by decide +kernel) rfl rfl rfl (by decide +kernel)
set_option maxRecDepth 65536 in
theorem w_c2 : (Jvm.Cond.code ({ cls := "com/example/bipartite_map/bipartitemap/cluster/Similarity", name := "<init>", desc := "(II)V" } : Jvm.MethodName) prog_13_method_1_code (4 : Nat) (Option.none : Option Jvm.ClassFile.FieldType)).before args0 about1 = true := code_word (m := ⟨5, 0⟩) (meth := k5m0) (c := k5c0) (by decide +kernel) rfl rfl rfl (by decide +kernel)
set_option maxRecDepth 65536 in
theorem w_c3 : (Jvm.Cond.code ({ cls := "java/lang/Record", name := "<init>", desc := "()V" } : Jvm.MethodName) jdk_30_method_1_code (1 : Nat) (Option.none : Option Jvm.ClassFile.FieldType)).before args0 about1 = true := code_word (m := ⟨3, 0⟩) (meth := k3m0) (c := k3c0) (by decide +kernel) rfl rfl rfl (by decide +kernel)
set_option maxRecDepth 65536 in
theorem w_c4 : (Jvm.Cond.code ({ cls := "java/lang/Object", name := "<init>", desc := "()V" } : Jvm.MethodName) object_method_1_code (1 : Nat) (Option.none : Option Jvm.ClassFile.FieldType)).before args0 about1 = true := code_word (m := ⟨0, 0⟩) (meth := k0m0) (c := k0c0) (by decide +kernel) rfl rfl rfl (by decide +kernel)
set_option maxRecDepth 65536 in
theorem w_c5 : (Jvm.Cond.code ({ cls := "com/example/bipartite_map/bipartitemap/cluster/Similarity", name := "gcd", desc := "(II)I" } : Jvm.MethodName) prog_13_method_6_code (5 : Nat) (Option.some Jvm.ClassFile.FieldType.int)).before args0 about1 = true := code_word (m := ⟨5, 2⟩) (meth := k5m2) (c := k5c2) (by decide +kernel) rfl rfl rfl (by decide +kernel)
set_option maxRecDepth 65536 in
theorem w_c6 : (Jvm.Cond.code ({ cls := "com/example/bipartite_map/bipartitemap/cluster/Similarity", name := "atLeast", desc := "(I)Z" } : Jvm.MethodName) prog_13_method_2_code (2 : Nat) (Option.some Jvm.ClassFile.FieldType.boolean)).before args0 about1 = true := code_word (m := ⟨5, 1⟩) (meth := k5m1) (c := k5c1) (by decide +kernel) rfl rfl rfl (by decide +kernel)
def codes1 : List Jvm.Cond := [Jvm.Cond.code x code maxLocals ret, Jvm.Cond.code ({ cls := "java/lang/Math", name := "max", desc := "(II)I" } : Jvm.MethodName) jdk_29_method_65_code (2 : Nat) (Option.some Jvm.ClassFile.FieldType.int), Jvm.Cond.code ({ cls := "com/example/bipartite_map/bipartitemap/cluster/Similarity", name := "<init>", desc := "(II)V" } : Jvm.MethodName) prog_13_method_1_code (4 : Nat) (Option.none : Option Jvm.ClassFile.FieldType), Jvm.Cond.code ({ cls := "java/lang/Record", name := "<init>", desc := "()V" } : Jvm.MethodName) jdk_30_method_1_code (1 : Nat) (Option.none : Option Jvm.ClassFile.FieldType), Jvm.Cond.code ({ cls := "java/lang/Object", name := "<init>", desc := "()V" } : Jvm.MethodName) object_method_1_code (1 : Nat) (Option.none : Option Jvm.ClassFile.FieldType), Jvm.Cond.code ({ cls := "com/example/bipartite_map/bipartitemap/cluster/Similarity", name := "gcd", desc := "(II)I" } : Jvm.MethodName) prog_13_method_6_code (5 : Nat) (Option.some Jvm.ClassFile.FieldType.int), Jvm.Cond.code ({ cls := "com/example/bipartite_map/bipartitemap/cluster/Similarity", name := "atLeast", desc := "(I)Z" } : Jvm.MethodName) prog_13_method_2_code (2 : Nat) (Option.some Jvm.ClassFile.FieldType.boolean)]
set_option maxRecDepth 65536 in
theorem codes_eq : words1.filter isCode = codes1 := rfl
theorem w_codes : ∀ c ∈ words1.filter isCode, c.before args0 about1 = true := by
  rw [codes_eq]
  intro c hc
  simp only [codes1, List.mem_cons, List.not_mem_nil, or_false] at hc
  rcases hc with rfl | rfl | rfl | rfl | rfl | rfl | rfl
  · exact w_c0
  · exact w_c1
  · exact w_c2
  · exact w_c3
  · exact w_c4
  · exact w_c5
  · exact w_c6
set_option maxRecDepth 65536 in
theorem w_t1 : (words1.take 24).all (fun c => isCode c || c.before args0 about1) = true := by decide +kernel
set_option maxRecDepth 65536 in
theorem w_t2 : (words1.drop 24).all (fun c => isCode c || c.before args0 about1) = true := by decide +kernel
theorem w_tables : (allAtoms (Jvm.Cond.code x code maxLocals ret :: tables_1)).before args0 about1 = true := by
  rw [allAtoms_all]
  show words1.all (fun c => c.before args0 about1) = true
  refine all_split ?_ w_codes
  rw [← List.take_append_drop 24 words1, List.all_append, w_t1, w_t2]
  rfl
set_option maxRecDepth 65536 in
theorem w_case : (Jvm.Cond.and given_1 narrow_1).before args0 about1 = true := by decide +kernel
theorem w_applies : (headSpec (Jvm.Cond.code x code maxLocals ret :: tables_1) room_1).applies x e0.platform about1 = true :=
  (Spec.applies_iff w_frames).mpr ⟨w_running, w_runnable, w_alone, w_named, w_hears, w_ripe, w_room, w_tables⟩
theorem atStart : AtStart classFile x code maxLocals ret World_1 tables_1 room_1 Calls_1 rest_1 Pre_1 launch0 p0 e0 about1 theMethod args0 below0 :=
  ⟨lists_1, trivial, launch0.admits_env _ _ _, launch0.least_env, fairChoices_fair.cas, fairChoices_fair.clock, w_frames, w_args, w_heap, w_applies, trivial, trivial, w_case⟩
end start1
theorem witness_1 : WitnessClaimed_1 := ⟨start1.p0, start1.e0, start1.about1, start1.theMethod, start1.args0, start1.below0, start1.atStart⟩
end Jvm.Pilot.@@N@@
