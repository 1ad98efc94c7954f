import JvmDerived
import JvmDerived.Pilot.@@N@@Statement
import JvmDerived.Pilot.@@N@@Code
set_option linter.unusedVariables false
set_option linter.unusedSimpArgs false
namespace Jvm.RoadKit
open Sem ClassFile Op Lib Jvm.Stand Jvm.Free Jvm.LawKit
section New
variable {p : Program} {l : Launch} {e : Env} {R : Room} {s : State} {m : MethodId} {args : Array Value} {below : List Frame} {meth : Method} {c : Code} {T : State} {locs : List Loc} {cells slots : Nat}
theorem retI (X : Stand p l e R s m args below meth c T locs cells slots) (hx : p.tables.exec = Jvm.exec) {pc : Nat} {Ls : Array Slot} {z : Int32} {rest : List Value} (hret : meth.sig.returnType = some .int) (hd : decode c.code pc = .ok (.ireturn, 1)) {fs : List Frame}
    (hl : ∀ (f : JFrame) (acts : List Action), f.method = m → f.locked = none → f.entered = [] → (doReturn e (T.setTop f) acts (some (.int z))).1 = T.setFrames fs) : Steps p.tables e below (T.setTop (mkF m pc Ls (.int z :: rest))) (T.setFrames fs) := by
  have hm' : T.vm.method? m = some meth := X.method'
  have hn : narrow .int (.int z) = .int z := rfl
  show Steps p.tables e below (T.setTop { method := m, pc := pc, locals := Ls, stack := _ :: rest, locked := none }) _
  jvm_step X.here [X.here.top, hx, hd, hm', hret, hn]
  first | (intro acts; rw [hl _ acts rfl rfl rfl]) | rw [hl _ _ rfl rfl rfl]
  exact Steps.refl _
theorem retJ (X : Stand p l e R s m args below meth c T locs cells slots) (hx : p.tables.exec = Jvm.exec) {pc : Nat} {Ls : Array Slot} {z : Int64} {rest : List Value} (hret : meth.sig.returnType = some .long) (hd : decode c.code pc = .ok (.lreturn, 1)) {fs : List Frame}
    (hl : ∀ (f : JFrame) (acts : List Action), f.method = m → f.locked = none → f.entered = [] → (doReturn e (T.setTop f) acts (some (.long z))).1 = T.setFrames fs) : Steps p.tables e below (T.setTop (mkF m pc Ls (.long z :: rest))) (T.setFrames fs) :=
  retOut X hx hret rfl (Or.inr (Or.inl ⟨rfl, rfl, z, rfl⟩)) hd hl
theorem retA (X : Stand p l e R s m args below meth c T locs cells slots) (hx : p.tables.exec = Jvm.exec) {pc : Nat} {Ls : Array Slot} {a : Addr} {t : FieldType} {rest : List Value} (hret : meth.sig.returnType = some t) (ht : t.isReference = true) (hd : decode c.code pc = .ok (.areturn, 1)) {fs : List Frame}
    (hl : ∀ (f : JFrame) (acts : List Action), f.method = m → f.locked = none → f.entered = [] → (doReturn e (T.setTop f) acts (some (.ref a))).1 = T.setFrames fs) : Steps p.tables e below (T.setTop (mkF m pc Ls (.ref a :: rest))) (T.setFrames fs) :=
  retOut X hx hret (by cases t <;> first | rfl | (simp [FieldType.isReference] at ht)) (Or.inr (Or.inr (Or.inr (Or.inr ⟨rfl, ht, rfl⟩)))) hd hl
end New
end Jvm.RoadKit
namespace Jvm.Pilot.@@N@@
open Jvm Jvm.ClassFile Sem Op Lib Jvm.Free Jvm.Stand Jvm.LawKit Jvm.RoadKit Bundle Jvm.Pilot.@@N@@.Jvm.D
section OwnKit
variable {p : Program} {l : Launch} {e : Env} {R : Room} {s : State} {m : MethodId} {args : Array Value} {below : List Frame} {meth : Method} {c : Code} {T : State} {locs : List Loc} {cells slots : Nat} {Z : State} {h h' : Heap}
/-- one body's contract, with the walk's goal as a closed predicate K: 'go' takes a step, 'fin' leaves the method -/
theorem own_body {y : MethodName} {bytes : ByteArray} {maxL : Nat} {ret : Option FieldType} {ws : List Jvm.Cond} {rm : Room} {h0 : Heap} {Q : Option Value → Heap → List Loc → Prop} (hp : plainFor y = true)
    (body : ∀ (p : Program) (e : Env) (s : State) (m : MethodId) (below : List Frame) (meth : Method) (c : Code) (s₁ : State) (K : State → Prop),
      (∀ U U', (∀ t, Steps p.tables e below U' t → Steps p.tables e below U t) → K U' → K U) →
      (∀ {T : State} {locs : List Loc} {cells slots : Nat} {g : JFrame} (v : Option Value), Stand p l e rm s m args below meth c T locs cells slots → cells ≤ rm.cells → slots ≤ rm.slots → (ret = none → v = none) → Q v T.heap locs →
        (∀ fs, (∀ (f : JFrame) (acts : List Action), f.method = m → f.locked = none → f.entered = [] → (doReturn e (T.setTop f) acts v).1 = T.setFrames fs) → Steps p.tables e below (T.setTop g) (T.setFrames fs)) → K (T.setTop g)) →
      Stand p l e rm s m args below meth c s₁ [] 0 0 → p.tables.exec = Jvm.exec → c.code = bytes → c.maxLocals = maxL → s.vm.findClass y.cls = some m.cls → meth.name = y.name → meth.sig.returnType = ret → Z.Warmed39 s.vm → s₁.heap = h0 → K (s₁.setTop (entryFrame m args maxL))) :
    MetFree l y (head1 (Jvm.Cond.code y bytes maxL ret :: ws) rm) (fun a U => a = args ∧ Z.Warmed39 U.vm ∧ U.heap = h0) (fun _ _ _ _ _ => True) (fun _ U o U' => ∃ v L, o = .returned v ∧ Q v U'.heap L ∧ FrameEnd U o U' L rm.cells rm.slots) := by
  refine MetFree.of_bodySF hp hisR ?_
  intro p e s m args' below meth c s₁ Bd hml hP hK
  obtain ⟨rfl, hZ, hh⟩ := hP
  refine body p e s m below meth c s₁ (fun U => ∃ s₂ o, Steps p.tables e below U s₂ ∧ s₂.status = .running ∧ Ended s₂ below o ∧ ∃ v L, o = .returned v ∧ Q v s₂.heap L ∧ FrameEnd s o s₂ L rm.cells rm.slots) ?_ ?_ (Stand.of_body Bd) Bd.exec Bd.bytes hml (findClass_of_methodNamed Bd.named) (name_of_methodNamed Bd.named Bd.method).1 Bd.returns hZ (by rw [← hh, Bd.state]; rfl)
  · rintro U U' st ⟨s₂, o, h1, h2⟩
    exact ⟨s₂, o, st _ h1, h2⟩
  · intro T locs cells slots g v X hc hs hv hQ hst
    obtain ⟨fs, hr, hrun, hended, hW, hsame⟩ := X.leave (v := v) (fun q => hv (Bd.returns ▸ q))
    exact ⟨_, _, hst fs hr, hrun, hended, v, locs, rfl, hQ, ⟨_, rfl⟩, hW, hsame.mono hc hs⟩
/-! Java's shifts and the narrowing to a byte -/
def jushr (x y : Int32) : Int32 := (x.toUInt32 >>> (y &&& 31).toUInt32).toInt32
def jshl (x y : Int32) : Int32 := x <<< (y &&& 31)
def jshr (x y : Int32) : Int32 := x >>> (y &&& 31)
def jushrL (x : Int64) (y : Int32) : Int64 := (x.toUInt64 >>> (y &&& 0x3f).toInt64.toUInt64).toInt64
def jshlL (x : Int64) (y : Int32) : Int64 := x <<< (y &&& 0x3f).toInt64
def jshrL (x : Int64) (y : Int32) : Int64 := x >>> (y &&& 0x3f).toInt64
def jb (x : Int32) : Int32 := x.toInt8.toInt32
theorem own_lrem {g : JFrame} {target : State} (X : Stand p l e R s m args below meth c T locs cells slots) (hx : p.tables.exec = Jvm.exec) (hg : g.method = m) {x y : Int64} {rest : List Value} (hd : decode c.code g.pc = .ok (.lrem, 1)) (hs : g.stack = .long y :: .long x :: rest) (hy : y ≠ 0)
    (hr : Steps p.tables e below (T.setTop { g with pc := g.pc + 1, stack := .long (x % y) :: rest }) target) : Steps p.tables e below (T.setTop g) target :=
  XS.lrem X.here hx hg hd hs hy (by rw [lrem_mod]; exact hr)
theorem own_narb (x : Int32) : nar .byte (jb x) = jb x := by simp [nar, jb]
/-! an array by its length and what its places hold -/
def own_upd (f : Nat → Value) (i : Nat) (v : Value) : Nat → Value := fun j => if j = i then v else f j
theorem own_hit (f : Nat → Value) (i : Nat) (v : Value) : own_upd f i v i = v := if_pos rfl
theorem own_miss {f : Nat → Value} {i j : Nat} {v : Value} (q : j ≠ i) : own_upd f i v j = f j := if_neg q
def AF (Z : State) (h : Heap) (a : Addr) (ty : FieldType) (n : Nat) (f : Nat → Value) : Prop := n < 2 ^ 31 ∧ ∃ c : Cell, Arr Z h a c ty ∧ c.slots.size = n ∧ ∀ j, j < n → c.slots[j]? = some (f j)
theorem AF.lt {a : Addr} {ty : FieldType} {n : Nat} {f : Nat → Value} (A : AF Z h a ty n f) : a < h.size := by obtain ⟨-, c, A, -⟩ := A; exact A.lt
theorem AF.ext {a : Addr} {ty : FieldType} {n : Nat} {f : Nat → Value} (A : AF Z h a ty n f) (E : Ext h h') : AF Z h' a ty n f := by obtain ⟨q, c, A, r⟩ := A; exact ⟨q, c, A.ext E, r⟩
theorem AF.other {a b : Addr} {sl : Nat} {v : Value} {ty : FieldType} {n : Nat} {f : Nat → Value} (A : AF Z h b ty n f) (W : Wr h h' a sl v) (q : b ≠ a) : AF Z h' b ty n f := by obtain ⟨q1, c, A, r⟩ := A; exact ⟨q1, c, A.other W q, r⟩
theorem AF.keep {a : Addr} {ws : List Addr} {ty : FieldType} {n : Nat} {f : Nat → Value} (A : AF Z h a ty n f) (K : Keep h h' ws) (q : a ∉ ws) : AF Z h' a ty n f := by obtain ⟨q1, c, A, r⟩ := A; exact ⟨q1, c, ⟨K.2.1 a c A.1 q, A.2⟩, r⟩
theorem AF.congr {a : Addr} {ty : FieldType} {n : Nat} {f f' : Nat → Value} (A : AF Z h a ty n f) (q : ∀ j, j < n → f j = f' j) : AF Z h a ty n f' := by obtain ⟨q1, c, A, S, r⟩ := A; exact ⟨q1, c, A, S, fun j hj => by rw [← q j hj]; exact r j hj⟩
theorem AF.len {a : Addr} {ty : FieldType} {n : Nat} {f : Nat → Value} (A : AF Z h a ty n f) : n < 2 ^ 31 := A.1
theorem own_idx {j : Int32} {i : Nat} (hj : j.toInt = (i : Int)) : j.toNatClampNeg = i := by simp only [Int32.toNatClampNeg, hj]; omega
theorem own_in {j : Int32} {i n : Nat} {c : Cell} (S : c.slots.size = n) (hj : j.toInt = (i : Int)) (hi : i < n) : ¬ (j < 0 ∨ c.slots.size ≤ j.toNatClampNeg) := by
  rw [own_idx hj, S, Int32.lt_iff_toInt_lt, hj]
  simp only [Int32.toInt_zero]
  omega
theorem own_set {a : Addr} {ty : FieldType} {n i : Nat} {f : Nat → Value} {cl : Cell} {v : Value} (q1 : n < 2 ^ 31) (A : Arr Z h a cl ty) (S : cl.slots.size = n) (H : ∀ j, j < n → cl.slots[j]? = some (f j)) (W : Wr h h' a i v) (hi : i < n) : AF Z h' a ty n (own_upd f i v) := by
  refine ⟨q1, _, A.same W, by rw [sz_set]; exact S, fun j hj => ?_⟩
  simp only [Cell.setSlot, own_upd]
  by_cases q : j = i
  · subst q; rw [if_pos rfl]; simp [S, hj]
  · rw [if_neg q, Array.getElem?_setIfInBounds_ne (fun z => q z.symm)]; exact H j hj
theorem own_stI (X : Stand p l e R s m args below meth c T locs cells slots) (hx : p.tables.exec = Jvm.exec) (hZ : Z.Warmed39 s.vm) (eT : T.heap = h) {a : Addr} {n i : Nat} {f : Nat → Value} (A : AF Z h a .int n f) {j x : Int32} (hj : j.toInt = (i : Int)) (hi : i < n) {g : JFrame} (hg : g.method = m) {rest : List Value} (hs : g.stack = .int x :: .int j :: .ref a :: rest) (hd : decode c.code g.pc = .ok (.iastore, 1)) :
    ∃ T' h', Stand p l e R s m args below meth c T' (locs ++ [⟨a, i⟩]) cells slots ∧ T'.heap = h' ∧ Wr h h' a i (.int x) ∧ AF Z h' a .int n (own_upd f i (.int x)) ∧ ∀ target, Steps p.tables e below (T'.setTop { g with pc := g.pc + 1, stack := rest }) target → Steps p.tables e below (T.setTop g) target := by
  obtain ⟨q1, cl, Ar, S, H⟩ := A
  obtain ⟨T', h', X', e', W, st⟩ := stI X hx hZ eT Ar (j := j) (own_in S hj hi) hg hs hd
  rw [own_idx hj] at X' W
  exact ⟨T', h', X', e', W, own_set q1 Ar S H W hi, st⟩
theorem own_stJ (X : Stand p l e R s m args below meth c T locs cells slots) (hx : p.tables.exec = Jvm.exec) (hZ : Z.Warmed39 s.vm) (eT : T.heap = h) {a : Addr} {n i : Nat} {f : Nat → Value} (A : AF Z h a .long n f) {j : Int32} {x : Int64} (hj : j.toInt = (i : Int)) (hi : i < n) {g : JFrame} (hg : g.method = m) {rest : List Value} (hs : g.stack = .long x :: .int j :: .ref a :: rest) (hd : decode c.code g.pc = .ok (.lastore, 1)) :
    ∃ T' h', Stand p l e R s m args below meth c T' (locs ++ [⟨a, i⟩]) cells slots ∧ T'.heap = h' ∧ Wr h h' a i (.long x) ∧ AF Z h' a .long n (own_upd f i (.long x)) ∧ ∀ target, Steps p.tables e below (T'.setTop { g with pc := g.pc + 1, stack := rest }) target → Steps p.tables e below (T.setTop g) target := by
  obtain ⟨q1, cl, Ar, S, H⟩ := A
  obtain ⟨T', h', X', e', W, st⟩ := stJ X hx hZ eT Ar (j := j) (own_in S hj hi) hg hs hd
  rw [own_idx hj] at X' W
  exact ⟨T', h', X', e', W, own_set q1 Ar S H W hi, st⟩
theorem own_stB (X : Stand p l e R s m args below meth c T locs cells slots) (hx : p.tables.exec = Jvm.exec) (hZ : Z.Warmed39 s.vm) (eT : T.heap = h) {a : Addr} {n i : Nat} {f : Nat → Value} (A : AF Z h a .byte n f) {j x : Int32} (hj : j.toInt = (i : Int)) (hi : i < n) (hn : nar .byte x = x) {g : JFrame} (hg : g.method = m) {rest : List Value} (hs : g.stack = .int x :: .int j :: .ref a :: rest) (hd : decode c.code g.pc = .ok (.bastore, 1)) :
    ∃ T' h', Stand p l e R s m args below meth c T' (locs ++ [⟨a, i⟩]) cells slots ∧ T'.heap = h' ∧ Wr h h' a i (.int x) ∧ AF Z h' a .byte n (own_upd f i (.int x)) ∧ ∀ target, Steps p.tables e below (T'.setTop { g with pc := g.pc + 1, stack := rest }) target → Steps p.tables e below (T.setTop g) target := by
  obtain ⟨q1, cl, Ar, S, H⟩ := A
  obtain ⟨T', h', X', e', W, st⟩ := stB X hx hZ eT Ar (j := j) (own_in S hj hi) hg hs hd
  rw [own_idx hj] at X' W
  rw [hn] at W
  exact ⟨T', h', X', e', W, own_set q1 Ar S H W hi, st⟩
theorem own_new (X : Stand p l e R s m args below meth c T locs cells slots) (hx : p.tables.exec = Jvm.exec) (hZ : Z.Warmed39 s.vm) {a0 : Array Value} {aty : ArrayType} (w : (Cond.arrayClass (newarray.typeOf aty)).before a0 Z = true) (eT : T.heap = h) {g : JFrame} (hg : g.method = m) (hd : decode c.code g.pc = .ok (.newarray aty, 2)) {n : Int32} {rest : List Value} (hs : g.stack = .int n :: rest)
    {k : Nat} (hn : n.toInt = (k : Int)) (cap : Nat) (hcap : k ≤ cap) (hb : cap * 8 ≤ 536870912) (hc : cells + 1 ≤ R.cells) (hl : slots + cap ≤ R.slots) :
    ∃ T' h' a, Stand p l e R s m args below meth c T' locs (cells + 1) (slots + cap) ∧ T'.heap = h' ∧ Ext h h' ∧ a = h.size ∧ AF Z h' a (newarray.typeOf aty) k (fun _ => defaultValue (newarray.typeOf aty)) ∧
      ∀ target, Steps p.tables e below (T'.setTop { g with pc := g.pc + 2, stack := .ref a :: rest }) target → Steps p.tables e below (T.setTop g) target := by
  have hn0 : ¬ n < 0 := by rw [Int32.lt_iff_toInt_lt, hn]; simp only [Int32.toInt_zero]; omega
  have hk : n.toNatClampNeg = k := own_idx hn
  have hk31 : k < 2 ^ 31 := by have := n.toInt_lt; omega
  obtain ⟨T', h', cA, X', e', E, A, st⟩ := newP X hx hZ w eT hg hd hs hn0 (by rw [hk]; exact hcap) hb hc hl
  refine ⟨T', h', h.size, X', e', E, rfl, ⟨hk31, _, A, by rw [sz_new, hk], fun j hj => ?_⟩, st⟩
  simp [newA, hk, hj]
theorem own_ldI (X : Stand p l e R s m args below meth c T locs cells slots) (hx : p.tables.exec = Jvm.exec) (hZ : Z.Warmed39 s.vm) (eT : T.heap = h) {a : Addr} {n i : Nat} {f : Nat → Value} (A : AF Z h a .int n f) {j : Int32} (hj : j.toInt = (i : Int)) (hi : i < n) {g : JFrame} (hg : g.method = m) {rest : List Value} (hs : g.stack = .int j :: .ref a :: rest) (hd : decode c.code g.pc = .ok (.iaload, 1)) {v : Value} (hv : f i = v) (target : State)
    (hr : Steps p.tables e below (T.setTop { g with pc := g.pc + 1, stack := v :: rest }) target) : Steps p.tables e below (T.setTop g) target := by
  obtain ⟨-, cl, Ar, S, H⟩ := A
  exact X.iaload hx (j := j) (v := v) (by rw [eT]; exact Ar.1) (State.isArrayOf_alike hZ.alike Ar.2.1) Ar.2.2 (own_in S hj hi) (by rw [own_idx hj, ← hv]; exact H i hi) hg hs hd target hr
theorem own_ldJ (X : Stand p l e R s m args below meth c T locs cells slots) (hx : p.tables.exec = Jvm.exec) (hZ : Z.Warmed39 s.vm) (eT : T.heap = h) {a : Addr} {n i : Nat} {f : Nat → Value} (A : AF Z h a .long n f) {j : Int32} (hj : j.toInt = (i : Int)) (hi : i < n) {g : JFrame} (hg : g.method = m) {rest : List Value} (hs : g.stack = .int j :: .ref a :: rest) (hd : decode c.code g.pc = .ok (.laload, 1)) {v : Value} (hv : f i = v) (target : State)
    (hr : Steps p.tables e below (T.setTop { g with pc := g.pc + 1, stack := v :: rest }) target) : Steps p.tables e below (T.setTop g) target := by
  obtain ⟨-, cl, Ar, S, H⟩ := A
  exact X.laload hx (j := j) (v := v) (by rw [eT]; exact Ar.1) (State.isArrayOf_alike hZ.alike Ar.2.1) Ar.2.2 (own_in S hj hi) (by rw [own_idx hj, ← hv]; exact H i hi) hg hs hd target hr
theorem own_ldB (X : Stand p l e R s m args below meth c T locs cells slots) (hx : p.tables.exec = Jvm.exec) (hZ : Z.Warmed39 s.vm) (eT : T.heap = h) {a : Addr} {n i : Nat} {f : Nat → Value} (A : AF Z h a .byte n f) {j : Int32} (hj : j.toInt = (i : Int)) (hi : i < n) {g : JFrame} (hg : g.method = m) {rest : List Value} (hs : g.stack = .int j :: .ref a :: rest) (hd : decode c.code g.pc = .ok (.baload, 1)) {v : Value} (hv : f i = v) (target : State)
    (hr : Steps p.tables e below (T.setTop { g with pc := g.pc + 1, stack := v :: rest }) target) : Steps p.tables e below (T.setTop g) target := by
  obtain ⟨-, cl, Ar, S, H⟩ := A
  exact X.baloadBytes hx (j := j) (v := v) (by rw [eT]; exact Ar.1) (State.isArrayOf_alike hZ.alike Ar.2.1) Ar.2.2 (own_in S hj hi) (by rw [own_idx hj, ← hv]; exact H i hi) hg hs hd target hr
theorem own_len (X : Stand p l e R s m args below meth c T locs cells slots) (hx : p.tables.exec = Jvm.exec) (hZ : Z.Warmed39 s.vm) (eT : T.heap = h) {a : Addr} {ty : FieldType} {n : Nat} {f : Nat → Value} (A : AF Z h a ty n f) {g : JFrame} (hg : g.method = m) {rest : List Value} (hs : g.stack = .ref a :: rest) (hd : decode c.code g.pc = .ok (.arraylength, 1)) (target : State)
    (hr : Steps p.tables e below (T.setTop { g with pc := g.pc + 1, stack := .int (Int32.ofNat n) :: rest }) target) : Steps p.tables e below (T.setTop g) target := by
  obtain ⟨-, cl, Ar, S, H⟩ := A
  refine X.arraylength hx (by rw [eT]; exact Ar.1) (State.isArrayOf_alike hZ.alike Ar.2.1) hg hs hd target ?_
  rw [S]; exact hr
end OwnKit
theorem pd_1 : parseMethodDescriptor "(JJ)[J" = some ⟨[.long, .long], some (.array .long)⟩ := by decide +kernel
theorem pd_2 : parseMethodDescriptor "([J)[J" = some ⟨[(.array .long)], some (.array .long)⟩ := by decide +kernel
theorem pd_3 : parseMethodDescriptor "([J[J[J)V" = some ⟨[(.array .long), (.array .long), (.array .long)], none⟩ := by decide +kernel
theorem pd_4 : parseMethodDescriptor "([J[J[J)Z" = some ⟨[(.array .long), (.array .long), (.array .long)], some .boolean⟩ := by decide +kernel
theorem pd_5 : parseMethodDescriptor "([J[J)Z" = some ⟨[(.array .long), (.array .long)], some .boolean⟩ := by decide +kernel
def own_gen (F : Nat → Value) (j : Nat) : Int64 := match F j with | .long z => z | _ => 0
theorem own_exg {Z : State} {h : Heap} {b : Addr} {F : Nat → Value} (A : AF Z h b .long 10 F) (q : ∀ j, j < 10 → ∃ z, F j = .long z) : ∃ g : Nat → Int64, AF Z h b .long 10 (fun j => .long (g j)) :=
  ⟨own_gen F, A.congr fun j hj => by obtain ⟨z, e⟩ := q j hj; unfold own_gen; rw [e]⟩
theorem d1_0 : decode method_2_code 0 = .ok (.bipush 10, 2) := by decide +kernel
theorem d1_2 : decode method_2_code 2 = .ok (.newarray .long, 2) := by decide +kernel
theorem d1_4 : decode method_2_code 4 = .ok (.astore 4, 2) := by decide +kernel
theorem d1_6 : decode method_2_code 6 = .ok (.aload 4, 2) := by decide +kernel
theorem d1_8 : decode method_2_code 8 = .ok (.iconst 0, 1) := by decide +kernel
theorem d1_9 : decode method_2_code 9 = .ok (.lload_n 0, 1) := by decide +kernel
theorem d1_10 : decode method_2_code 10 = .ok (.lastore, 1) := by decide +kernel
theorem d1_11 : decode method_2_code 11 = .ok (.aload 4, 2) := by decide +kernel
theorem d1_13 : decode method_2_code 13 = .ok (.iconst 1, 1) := by decide +kernel
theorem d1_14 : decode method_2_code 14 = .ok (.lload_n 2, 1) := by decide +kernel
theorem d1_15 : decode method_2_code 15 = .ok (.lastore, 1) := by decide +kernel
theorem d1_16 : decode method_2_code 16 = .ok (.aload 4, 2) := by decide +kernel
theorem d1_18 : decode method_2_code 18 = .ok (.iconst 2, 1) := by decide +kernel
theorem d1_19 : decode method_2_code 19 = .ok (.lload_n 0, 1) := by decide +kernel
theorem d1_20 : decode method_2_code 20 = .ok (.lload_n 2, 1) := by decide +kernel
theorem d1_21 : decode method_2_code 21 = .ok (.ladd, 1) := by decide +kernel
theorem d1_22 : decode method_2_code 22 = .ok (.lastore, 1) := by decide +kernel
theorem d1_23 : decode method_2_code 23 = .ok (.aload 4, 2) := by decide +kernel
theorem d1_25 : decode method_2_code 25 = .ok (.iconst 3, 1) := by decide +kernel
theorem d1_26 : decode method_2_code 26 = .ok (.lload_n 0, 1) := by decide +kernel
theorem d1_27 : decode method_2_code 27 = .ok (.lload_n 2, 1) := by decide +kernel
theorem d1_28 : decode method_2_code 28 = .ok (.lsub, 1) := by decide +kernel
theorem d1_29 : decode method_2_code 29 = .ok (.lastore, 1) := by decide +kernel
theorem d1_30 : decode method_2_code 30 = .ok (.aload 4, 2) := by decide +kernel
theorem d1_32 : decode method_2_code 32 = .ok (.iconst 4, 1) := by decide +kernel
theorem d1_33 : decode method_2_code 33 = .ok (.lload_n 0, 1) := by decide +kernel
theorem d1_34 : decode method_2_code 34 = .ok (.lload_n 2, 1) := by decide +kernel
theorem d1_35 : decode method_2_code 35 = .ok (.lxor, 1) := by decide +kernel
theorem d1_36 : decode method_2_code 36 = .ok (.lastore, 1) := by decide +kernel
theorem d1_37 : decode method_2_code 37 = .ok (.aload 4, 2) := by decide +kernel
theorem d1_39 : decode method_2_code 39 = .ok (.iconst 5, 1) := by decide +kernel
theorem d1_40 : decode method_2_code 40 = .ok (.ldc2_w 7, 3) := by decide +kernel
theorem d1_43 : decode method_2_code 43 = .ok (.lload_n 0, 1) := by decide +kernel
theorem d1_44 : decode method_2_code 44 = .ok (.lmul, 1) := by decide +kernel
theorem d1_45 : decode method_2_code 45 = .ok (.lastore, 1) := by decide +kernel
theorem d1_46 : decode method_2_code 46 = .ok (.aload 4, 2) := by decide +kernel
theorem d1_48 : decode method_2_code 48 = .ok (.bipush 6, 2) := by decide +kernel
theorem d1_50 : decode method_2_code 50 = .ok (.ldc2_w 9, 3) := by decide +kernel
theorem d1_53 : decode method_2_code 53 = .ok (.lload_n 2, 1) := by decide +kernel
theorem d1_54 : decode method_2_code 54 = .ok (.lmul, 1) := by decide +kernel
theorem d1_55 : decode method_2_code 55 = .ok (.lastore, 1) := by decide +kernel
theorem d1_56 : decode method_2_code 56 = .ok (.aload 4, 2) := by decide +kernel
theorem d1_58 : decode method_2_code 58 = .ok (.bipush 7, 2) := by decide +kernel
theorem d1_60 : decode method_2_code 60 = .ok (.lload_n 0, 1) := by decide +kernel
theorem d1_61 : decode method_2_code 61 = .ok (.ldc2_w 11, 3) := by decide +kernel
theorem d1_64 : decode method_2_code 64 = .ok (.lxor, 1) := by decide +kernel
theorem d1_65 : decode method_2_code 65 = .ok (.lastore, 1) := by decide +kernel
theorem d1_66 : decode method_2_code 66 = .ok (.aload 4, 2) := by decide +kernel
theorem d1_68 : decode method_2_code 68 = .ok (.bipush 8, 2) := by decide +kernel
theorem d1_70 : decode method_2_code 70 = .ok (.lload_n 0, 1) := by decide +kernel
theorem d1_71 : decode method_2_code 71 = .ok (.bipush 7, 2) := by decide +kernel
theorem d1_73 : decode method_2_code 73 = .ok (.lushr, 1) := by decide +kernel
theorem d1_74 : decode method_2_code 74 = .ok (.lastore, 1) := by decide +kernel
theorem d1_75 : decode method_2_code 75 = .ok (.aload 4, 2) := by decide +kernel
theorem d1_77 : decode method_2_code 77 = .ok (.bipush 9, 2) := by decide +kernel
theorem d1_79 : decode method_2_code 79 = .ok (.ldc2_w 13, 3) := by decide +kernel
theorem d1_82 : decode method_2_code 82 = .ok (.lload_n 2, 1) := by decide +kernel
theorem d1_83 : decode method_2_code 83 = .ok (.lmul, 1) := by decide +kernel
theorem d1_84 : decode method_2_code 84 = .ok (.lload_n 0, 1) := by decide +kernel
theorem d1_85 : decode method_2_code 85 = .ok (.ladd, 1) := by decide +kernel
theorem d1_86 : decode method_2_code 86 = .ok (.lastore, 1) := by decide +kernel
theorem d1_87 : decode method_2_code 87 = .ok (.aload 4, 2) := by decide +kernel
theorem d1_89 : decode method_2_code 89 = .ok (.areturn, 1) := by decide +kernel
theorem pn_7 : plainName "com/example/withhold/withhold/crypto/Field25519SubtractPinLaw" = true := by first | (simp [plainName, overriddenIn]; done) | decide +kernel
theorem ef_rm1 (m : MethodId) (q1 : Int64) (q2 : Int64) : entryFrame m #[(.long q1), (.long q2)] 5 = mkF m 0 #[.val (.long q1), .second, .val (.long q2), .second, .unset] [] := by first | (simp [entryFrame, mkF, argsToLocals, Value.category]; done) | rfl
def Q_rm1 (Z : State) (q1 : Int64) (q2 : Int64) (h0 : Heap) (n0 : Nat) (v : Option Value) (h : Heap) (L : List Loc) : Prop := ∃ b, v = some (.ref b) ∧ Fr n0 L ∧ n0 ≤ b ∧ h0.size ≤ b ∧ Keep h0 h [] ∧ ∃ g : Nat → Int64, AF Z h b .long 10 (fun j => .long (g j))
set_option maxRecDepth 65536 in
set_option maxHeartbeats 40000000 in
theorem rm1 (l : Launch) (Z : State) (a0 : Array Value) (hw : ∀ d ∈ tables_1, d.before a0 Z = true) (ws : List Jvm.Cond) (q1 : Int64) (q2 : Int64) (h0 : Heap) (n0 : Nat) (Z0 : n0 ≤ h0.size)  :
    MetFree l (⟨"com/example/withhold/withhold/crypto/Field25519SubtractPinLaw", "fill", "(JJ)[J"⟩ : MethodName) (head1 (Jvm.Cond.code (⟨"com/example/withhold/withhold/crypto/Field25519SubtractPinLaw", "fill", "(JJ)[J"⟩ : MethodName) method_2_code 5 (some (.array .long)) :: ws) ({ frames := 0, cells := 1, slots := 10, locals := 0 } : Room)) (fun a U => a = #[(.long q1), (.long q2)] ∧ Z.Warmed39 U.vm ∧ U.heap = h0) (fun _ _ _ _ _ => True) (fun _ U o U' => ∃ v L, o = .returned v ∧ Q_rm1 Z q1 q2 h0 n0 v U'.heap L ∧ FrameEnd U o U' L ({ frames := 0, cells := 1, slots := 10, locals := 0 } : Room).cells ({ frames := 0, cells := 1, slots := 10, locals := 0 } : Room).slots) := by
  refine own_body (Q := Q_rm1 Z q1 q2 h0 n0) (plainFor_of_name pn_7) ?_
  intro p e s m below meth c s₁ K go fin X0 hx hby hml hown hnm hret hZ e0
  have hown : s.vm.findClass "com/example/withhold/withhold/crypto/Field25519SubtractPinLaw" = some m.cls := hown
  have N0 := Fr.nil n0
  have K0 : Keep h0 h0 [] := Keep.refl h0 _
  refine go _ (s₁.setTop (mkF m 0 #[.val (.long q1), .second, .val (.long q2), .second, .unset] [])) (fun t k => castTop (ef_rm1 m q1 q2) k) ?_
  refine go _ (s₁.setTop (mkF m 2 #[.val (.long q1), .second, .val (.long q2), .second, .unset] [(.int (10 : Int32))])) (fun t k => XS.bipush X0.here hx rfl (hb hby d1_0) k) ?_
  obtain ⟨T1, h1, b1, X1, e1, E1, g1, A1, st1⟩ := own_new X0 hx hZ (hw _ (List.mem_of_getElem? (i := 4) rfl)) e0 (g := (mkF m 2 #[.val (.long q1), .second, .val (.long q2), .second, .unset] [(.int (10 : Int32))])) rfl (hb hby d1_2) rfl (k := 10) (by decide) 10 (by decide) (by decide) (by decide) (by decide)
  have Z2 : n0 ≤ h1.size := Nat.le_trans Z0 E1.1
  have ge_b1 : n0 ≤ b1 := by rw [g1]; exact Z0
  have sz_b1 : h0.size ≤ b1 := by rw [g1]; exact K0.1
  have K3 := K0.ext E1
  have A1' : AF Z h1 b1 .long 10 (fun _ => .long 0) := A1
  refine go _ (T1.setTop (mkF m 4 #[.val (.long q1), .second, .val (.long q2), .second, .unset] [(.ref b1)])) (st1) ?_
  refine go _ (T1.setTop (mkF m 6 #[.val (.long q1), .second, .val (.long q2), .second, .val (.ref b1)] [])) (fun t k => XS.astore X1.here hx rfl (hb hby d1_4) rfl rfl (l' := #[.val (.long q1), .second, .val (.long q2), .second, .val (.ref b1)]) rfl k) ?_
  refine go _ (T1.setTop (mkF m 8 #[.val (.long q1), .second, .val (.long q2), .second, .val (.ref b1)] [(.ref b1)])) (fun t k => XS.aload X1.here hx rfl (hb hby d1_6) rfl rfl k) ?_
  refine go _ (T1.setTop (mkF m 9 #[.val (.long q1), .second, .val (.long q2), .second, .val (.ref b1)] [(.int (0 : Int32)), (.ref b1)])) (fun t k => XS.iconst X1.here hx rfl (hb hby d1_8) k) ?_
  refine go _ (T1.setTop (mkF m 10 #[.val (.long q1), .second, .val (.long q2), .second, .val (.ref b1)] [(.long q1), (.int (0 : Int32)), (.ref b1)])) (fun t k => XS.lloadN X1.here hx rfl (hb hby d1_9) rfl k) ?_
  obtain ⟨T4, h4, X4, e4, W4, A4, st4⟩ := own_stJ X1 hx hZ e1 A1' (i := 0) (by decide) (by decide) (g := (mkF m 10 #[.val (.long q1), .second, .val (.long q2), .second, .val (.ref b1)] [(.long q1), (.int (0 : Int32)), (.ref b1)])) rfl rfl (hb hby d1_10)
  have Z5 : n0 ≤ h4.size := by rw [W4.size]; exact Z2
  have N6 := Fr.snoc X4 N0 ge_b1
  have K7 := K3.wr W4 (Or.inr sz_b1)
  refine go _ (T4.setTop (mkF m 11 #[.val (.long q1), .second, .val (.long q2), .second, .val (.ref b1)] [])) (st4) ?_
  refine go _ (T4.setTop (mkF m 13 #[.val (.long q1), .second, .val (.long q2), .second, .val (.ref b1)] [(.ref b1)])) (fun t k => XS.aload X4.here hx rfl (hb hby d1_11) rfl rfl k) ?_
  refine go _ (T4.setTop (mkF m 14 #[.val (.long q1), .second, .val (.long q2), .second, .val (.ref b1)] [(.int (1 : Int32)), (.ref b1)])) (fun t k => XS.iconst X4.here hx rfl (hb hby d1_13) k) ?_
  refine go _ (T4.setTop (mkF m 15 #[.val (.long q1), .second, .val (.long q2), .second, .val (.ref b1)] [(.long q2), (.int (1 : Int32)), (.ref b1)])) (fun t k => XS.lloadN X4.here hx rfl (hb hby d1_14) rfl k) ?_
  obtain ⟨T8, h8, X8, e8, W8, A8, st8⟩ := own_stJ X4 hx hZ e4 A4 (i := 1) (by decide) (by decide) (g := (mkF m 15 #[.val (.long q1), .second, .val (.long q2), .second, .val (.ref b1)] [(.long q2), (.int (1 : Int32)), (.ref b1)])) rfl rfl (hb hby d1_15)
  have Z9 : n0 ≤ h8.size := by rw [W8.size]; exact Z5
  have N10 := Fr.snoc X8 N6 ge_b1
  have K11 := K7.wr W8 (Or.inr sz_b1)
  refine go _ (T8.setTop (mkF m 16 #[.val (.long q1), .second, .val (.long q2), .second, .val (.ref b1)] [])) (st8) ?_
  refine go _ (T8.setTop (mkF m 18 #[.val (.long q1), .second, .val (.long q2), .second, .val (.ref b1)] [(.ref b1)])) (fun t k => XS.aload X8.here hx rfl (hb hby d1_16) rfl rfl k) ?_
  refine go _ (T8.setTop (mkF m 19 #[.val (.long q1), .second, .val (.long q2), .second, .val (.ref b1)] [(.int (2 : Int32)), (.ref b1)])) (fun t k => XS.iconst X8.here hx rfl (hb hby d1_18) k) ?_
  refine go _ (T8.setTop (mkF m 20 #[.val (.long q1), .second, .val (.long q2), .second, .val (.ref b1)] [(.long q1), (.int (2 : Int32)), (.ref b1)])) (fun t k => XS.lloadN X8.here hx rfl (hb hby d1_19) rfl k) ?_
  refine go _ (T8.setTop (mkF m 21 #[.val (.long q1), .second, .val (.long q2), .second, .val (.ref b1)] [(.long q2), (.long q1), (.int (2 : Int32)), (.ref b1)])) (fun t k => XS.lloadN X8.here hx rfl (hb hby d1_20) rfl k) ?_
  refine go _ (T8.setTop (mkF m 22 #[.val (.long q1), .second, .val (.long q2), .second, .val (.ref b1)] [(.long (q1 + q2)), (.int (2 : Int32)), (.ref b1)])) (fun t k => XS.ladd X8.here hx rfl (hb hby d1_21) rfl k) ?_
  obtain ⟨T12, h12, X12, e12, W12, A12, st12⟩ := own_stJ X8 hx hZ e8 A8 (i := 2) (by decide) (by decide) (g := (mkF m 22 #[.val (.long q1), .second, .val (.long q2), .second, .val (.ref b1)] [(.long (q1 + q2)), (.int (2 : Int32)), (.ref b1)])) rfl rfl (hb hby d1_22)
  have Z13 : n0 ≤ h12.size := by rw [W12.size]; exact Z9
  have N14 := Fr.snoc X12 N10 ge_b1
  have K15 := K11.wr W12 (Or.inr sz_b1)
  refine go _ (T12.setTop (mkF m 23 #[.val (.long q1), .second, .val (.long q2), .second, .val (.ref b1)] [])) (st12) ?_
  refine go _ (T12.setTop (mkF m 25 #[.val (.long q1), .second, .val (.long q2), .second, .val (.ref b1)] [(.ref b1)])) (fun t k => XS.aload X12.here hx rfl (hb hby d1_23) rfl rfl k) ?_
  refine go _ (T12.setTop (mkF m 26 #[.val (.long q1), .second, .val (.long q2), .second, .val (.ref b1)] [(.int (3 : Int32)), (.ref b1)])) (fun t k => XS.iconst X12.here hx rfl (hb hby d1_25) k) ?_
  refine go _ (T12.setTop (mkF m 27 #[.val (.long q1), .second, .val (.long q2), .second, .val (.ref b1)] [(.long q1), (.int (3 : Int32)), (.ref b1)])) (fun t k => XS.lloadN X12.here hx rfl (hb hby d1_26) rfl k) ?_
  refine go _ (T12.setTop (mkF m 28 #[.val (.long q1), .second, .val (.long q2), .second, .val (.ref b1)] [(.long q2), (.long q1), (.int (3 : Int32)), (.ref b1)])) (fun t k => XS.lloadN X12.here hx rfl (hb hby d1_27) rfl k) ?_
  refine go _ (T12.setTop (mkF m 29 #[.val (.long q1), .second, .val (.long q2), .second, .val (.ref b1)] [(.long (q1 - q2)), (.int (3 : Int32)), (.ref b1)])) (fun t k => XS.lsub X12.here hx rfl (hb hby d1_28) rfl k) ?_
  obtain ⟨T16, h16, X16, e16, W16, A16, st16⟩ := own_stJ X12 hx hZ e12 A12 (i := 3) (by decide) (by decide) (g := (mkF m 29 #[.val (.long q1), .second, .val (.long q2), .second, .val (.ref b1)] [(.long (q1 - q2)), (.int (3 : Int32)), (.ref b1)])) rfl rfl (hb hby d1_29)
  have Z17 : n0 ≤ h16.size := by rw [W16.size]; exact Z13
  have N18 := Fr.snoc X16 N14 ge_b1
  have K19 := K15.wr W16 (Or.inr sz_b1)
  refine go _ (T16.setTop (mkF m 30 #[.val (.long q1), .second, .val (.long q2), .second, .val (.ref b1)] [])) (st16) ?_
  refine go _ (T16.setTop (mkF m 32 #[.val (.long q1), .second, .val (.long q2), .second, .val (.ref b1)] [(.ref b1)])) (fun t k => XS.aload X16.here hx rfl (hb hby d1_30) rfl rfl k) ?_
  refine go _ (T16.setTop (mkF m 33 #[.val (.long q1), .second, .val (.long q2), .second, .val (.ref b1)] [(.int (4 : Int32)), (.ref b1)])) (fun t k => XS.iconst X16.here hx rfl (hb hby d1_32) k) ?_
  refine go _ (T16.setTop (mkF m 34 #[.val (.long q1), .second, .val (.long q2), .second, .val (.ref b1)] [(.long q1), (.int (4 : Int32)), (.ref b1)])) (fun t k => XS.lloadN X16.here hx rfl (hb hby d1_33) rfl k) ?_
  refine go _ (T16.setTop (mkF m 35 #[.val (.long q1), .second, .val (.long q2), .second, .val (.ref b1)] [(.long q2), (.long q1), (.int (4 : Int32)), (.ref b1)])) (fun t k => XS.lloadN X16.here hx rfl (hb hby d1_34) rfl k) ?_
  refine go _ (T16.setTop (mkF m 36 #[.val (.long q1), .second, .val (.long q2), .second, .val (.ref b1)] [(.long (q1 ^^^ q2)), (.int (4 : Int32)), (.ref b1)])) (fun t k => XS.lxor X16.here hx rfl (hb hby d1_35) rfl k) ?_
  obtain ⟨T20, h20, X20, e20, W20, A20, st20⟩ := own_stJ X16 hx hZ e16 A16 (i := 4) (by decide) (by decide) (g := (mkF m 36 #[.val (.long q1), .second, .val (.long q2), .second, .val (.ref b1)] [(.long (q1 ^^^ q2)), (.int (4 : Int32)), (.ref b1)])) rfl rfl (hb hby d1_36)
  have Z21 : n0 ≤ h20.size := by rw [W20.size]; exact Z17
  have N22 := Fr.snoc X20 N18 ge_b1
  have K23 := K19.wr W20 (Or.inr sz_b1)
  refine go _ (T20.setTop (mkF m 37 #[.val (.long q1), .second, .val (.long q2), .second, .val (.ref b1)] [])) (st20) ?_
  refine go _ (T20.setTop (mkF m 39 #[.val (.long q1), .second, .val (.long q2), .second, .val (.ref b1)] [(.ref b1)])) (fun t k => XS.aload X20.here hx rfl (hb hby d1_37) rfl rfl k) ?_
  refine go _ (T20.setTop (mkF m 40 #[.val (.long q1), .second, .val (.long q2), .second, .val (.ref b1)] [(.int (5 : Int32)), (.ref b1)])) (fun t k => XS.iconst X20.here hx rfl (hb hby d1_39) k) ?_
  refine go _ (T20.setTop (mkF m 43 #[.val (.long q1), .second, .val (.long q2), .second, .val (.ref b1)] [(.long (3 : Int64)), (.int (5 : Int32)), (.ref b1)])) (X20.ldc2Long hx hown (mvT hZ (hw _ (List.mem_of_getElem? (i := 5) rfl))) (g := (mkF m 40 #[.val (.long q1), .second, .val (.long q2), .second, .val (.ref b1)] [(.int (5 : Int32)), (.ref b1)])) rfl (hb hby d1_40)) ?_
  refine go _ (T20.setTop (mkF m 44 #[.val (.long q1), .second, .val (.long q2), .second, .val (.ref b1)] [(.long q1), (.long (3 : Int64)), (.int (5 : Int32)), (.ref b1)])) (fun t k => XS.lloadN X20.here hx rfl (hb hby d1_43) rfl k) ?_
  refine go _ (T20.setTop (mkF m 45 #[.val (.long q1), .second, .val (.long q2), .second, .val (.ref b1)] [(.long ((3 : Int64) * q1)), (.int (5 : Int32)), (.ref b1)])) (fun t k => XS.lmul X20.here hx rfl (hb hby d1_44) rfl k) ?_
  obtain ⟨T24, h24, X24, e24, W24, A24, st24⟩ := own_stJ X20 hx hZ e20 A20 (i := 5) (by decide) (by decide) (g := (mkF m 45 #[.val (.long q1), .second, .val (.long q2), .second, .val (.ref b1)] [(.long ((3 : Int64) * q1)), (.int (5 : Int32)), (.ref b1)])) rfl rfl (hb hby d1_45)
  have Z25 : n0 ≤ h24.size := by rw [W24.size]; exact Z21
  have N26 := Fr.snoc X24 N22 ge_b1
  have K27 := K23.wr W24 (Or.inr sz_b1)
  refine go _ (T24.setTop (mkF m 46 #[.val (.long q1), .second, .val (.long q2), .second, .val (.ref b1)] [])) (st24) ?_
  refine go _ (T24.setTop (mkF m 48 #[.val (.long q1), .second, .val (.long q2), .second, .val (.ref b1)] [(.ref b1)])) (fun t k => XS.aload X24.here hx rfl (hb hby d1_46) rfl rfl k) ?_
  refine go _ (T24.setTop (mkF m 50 #[.val (.long q1), .second, .val (.long q2), .second, .val (.ref b1)] [(.int (6 : Int32)), (.ref b1)])) (fun t k => XS.bipush X24.here hx rfl (hb hby d1_48) k) ?_
  refine go _ (T24.setTop (mkF m 53 #[.val (.long q1), .second, .val (.long q2), .second, .val (.ref b1)] [(.long (5 : Int64)), (.int (6 : Int32)), (.ref b1)])) (X24.ldc2Long hx hown (mvT hZ (hw _ (List.mem_of_getElem? (i := 6) rfl))) (g := (mkF m 50 #[.val (.long q1), .second, .val (.long q2), .second, .val (.ref b1)] [(.int (6 : Int32)), (.ref b1)])) rfl (hb hby d1_50)) ?_
  refine go _ (T24.setTop (mkF m 54 #[.val (.long q1), .second, .val (.long q2), .second, .val (.ref b1)] [(.long q2), (.long (5 : Int64)), (.int (6 : Int32)), (.ref b1)])) (fun t k => XS.lloadN X24.here hx rfl (hb hby d1_53) rfl k) ?_
  refine go _ (T24.setTop (mkF m 55 #[.val (.long q1), .second, .val (.long q2), .second, .val (.ref b1)] [(.long ((5 : Int64) * q2)), (.int (6 : Int32)), (.ref b1)])) (fun t k => XS.lmul X24.here hx rfl (hb hby d1_54) rfl k) ?_
  obtain ⟨T28, h28, X28, e28, W28, A28, st28⟩ := own_stJ X24 hx hZ e24 A24 (i := 6) (by decide) (by decide) (g := (mkF m 55 #[.val (.long q1), .second, .val (.long q2), .second, .val (.ref b1)] [(.long ((5 : Int64) * q2)), (.int (6 : Int32)), (.ref b1)])) rfl rfl (hb hby d1_55)
  have Z29 : n0 ≤ h28.size := by rw [W28.size]; exact Z25
  have N30 := Fr.snoc X28 N26 ge_b1
  have K31 := K27.wr W28 (Or.inr sz_b1)
  refine go _ (T28.setTop (mkF m 56 #[.val (.long q1), .second, .val (.long q2), .second, .val (.ref b1)] [])) (st28) ?_
  refine go _ (T28.setTop (mkF m 58 #[.val (.long q1), .second, .val (.long q2), .second, .val (.ref b1)] [(.ref b1)])) (fun t k => XS.aload X28.here hx rfl (hb hby d1_56) rfl rfl k) ?_
  refine go _ (T28.setTop (mkF m 60 #[.val (.long q1), .second, .val (.long q2), .second, .val (.ref b1)] [(.int (7 : Int32)), (.ref b1)])) (fun t k => XS.bipush X28.here hx rfl (hb hby d1_58) k) ?_
  refine go _ (T28.setTop (mkF m 61 #[.val (.long q1), .second, .val (.long q2), .second, .val (.ref b1)] [(.long q1), (.int (7 : Int32)), (.ref b1)])) (fun t k => XS.lloadN X28.here hx rfl (hb hby d1_60) rfl k) ?_
  refine go _ (T28.setTop (mkF m 64 #[.val (.long q1), .second, .val (.long q2), .second, .val (.ref b1)] [(.long (-1 : Int64)), (.long q1), (.int (7 : Int32)), (.ref b1)])) (X28.ldc2Long hx hown (mvT hZ (hw _ (List.mem_of_getElem? (i := 7) rfl))) (g := (mkF m 61 #[.val (.long q1), .second, .val (.long q2), .second, .val (.ref b1)] [(.long q1), (.int (7 : Int32)), (.ref b1)])) rfl (hb hby d1_61)) ?_
  refine go _ (T28.setTop (mkF m 65 #[.val (.long q1), .second, .val (.long q2), .second, .val (.ref b1)] [(.long (q1 ^^^ (-1 : Int64))), (.int (7 : Int32)), (.ref b1)])) (fun t k => XS.lxor X28.here hx rfl (hb hby d1_64) rfl k) ?_
  obtain ⟨T32, h32, X32, e32, W32, A32, st32⟩ := own_stJ X28 hx hZ e28 A28 (i := 7) (by decide) (by decide) (g := (mkF m 65 #[.val (.long q1), .second, .val (.long q2), .second, .val (.ref b1)] [(.long (q1 ^^^ (-1 : Int64))), (.int (7 : Int32)), (.ref b1)])) rfl rfl (hb hby d1_65)
  have Z33 : n0 ≤ h32.size := by rw [W32.size]; exact Z29
  have N34 := Fr.snoc X32 N30 ge_b1
  have K35 := K31.wr W32 (Or.inr sz_b1)
  refine go _ (T32.setTop (mkF m 66 #[.val (.long q1), .second, .val (.long q2), .second, .val (.ref b1)] [])) (st32) ?_
  refine go _ (T32.setTop (mkF m 68 #[.val (.long q1), .second, .val (.long q2), .second, .val (.ref b1)] [(.ref b1)])) (fun t k => XS.aload X32.here hx rfl (hb hby d1_66) rfl rfl k) ?_
  refine go _ (T32.setTop (mkF m 70 #[.val (.long q1), .second, .val (.long q2), .second, .val (.ref b1)] [(.int (8 : Int32)), (.ref b1)])) (fun t k => XS.bipush X32.here hx rfl (hb hby d1_68) k) ?_
  refine go _ (T32.setTop (mkF m 71 #[.val (.long q1), .second, .val (.long q2), .second, .val (.ref b1)] [(.long q1), (.int (8 : Int32)), (.ref b1)])) (fun t k => XS.lloadN X32.here hx rfl (hb hby d1_70) rfl k) ?_
  refine go _ (T32.setTop (mkF m 73 #[.val (.long q1), .second, .val (.long q2), .second, .val (.ref b1)] [(.int (7 : Int32)), (.long q1), (.int (8 : Int32)), (.ref b1)])) (fun t k => XS.bipush X32.here hx rfl (hb hby d1_71) k) ?_
  refine go _ (T32.setTop (mkF m 74 #[.val (.long q1), .second, .val (.long q2), .second, .val (.ref b1)] [(.long (jushrL q1 (7 : Int32))), (.int (8 : Int32)), (.ref b1)])) (fun t k => XS.lushr X32.here hx rfl (hb hby d1_73) rfl k) ?_
  obtain ⟨T36, h36, X36, e36, W36, A36, st36⟩ := own_stJ X32 hx hZ e32 A32 (i := 8) (by decide) (by decide) (g := (mkF m 74 #[.val (.long q1), .second, .val (.long q2), .second, .val (.ref b1)] [(.long (jushrL q1 (7 : Int32))), (.int (8 : Int32)), (.ref b1)])) rfl rfl (hb hby d1_74)
  have Z37 : n0 ≤ h36.size := by rw [W36.size]; exact Z33
  have N38 := Fr.snoc X36 N34 ge_b1
  have K39 := K35.wr W36 (Or.inr sz_b1)
  refine go _ (T36.setTop (mkF m 75 #[.val (.long q1), .second, .val (.long q2), .second, .val (.ref b1)] [])) (st36) ?_
  refine go _ (T36.setTop (mkF m 77 #[.val (.long q1), .second, .val (.long q2), .second, .val (.ref b1)] [(.ref b1)])) (fun t k => XS.aload X36.here hx rfl (hb hby d1_75) rfl rfl k) ?_
  refine go _ (T36.setTop (mkF m 79 #[.val (.long q1), .second, .val (.long q2), .second, .val (.ref b1)] [(.int (9 : Int32)), (.ref b1)])) (fun t k => XS.bipush X36.here hx rfl (hb hby d1_77) k) ?_
  refine go _ (T36.setTop (mkF m 82 #[.val (.long q1), .second, .val (.long q2), .second, .val (.ref b1)] [(.long (7 : Int64)), (.int (9 : Int32)), (.ref b1)])) (X36.ldc2Long hx hown (mvT hZ (hw _ (List.mem_of_getElem? (i := 8) rfl))) (g := (mkF m 79 #[.val (.long q1), .second, .val (.long q2), .second, .val (.ref b1)] [(.int (9 : Int32)), (.ref b1)])) rfl (hb hby d1_79)) ?_
  refine go _ (T36.setTop (mkF m 83 #[.val (.long q1), .second, .val (.long q2), .second, .val (.ref b1)] [(.long q2), (.long (7 : Int64)), (.int (9 : Int32)), (.ref b1)])) (fun t k => XS.lloadN X36.here hx rfl (hb hby d1_82) rfl k) ?_
  refine go _ (T36.setTop (mkF m 84 #[.val (.long q1), .second, .val (.long q2), .second, .val (.ref b1)] [(.long ((7 : Int64) * q2)), (.int (9 : Int32)), (.ref b1)])) (fun t k => XS.lmul X36.here hx rfl (hb hby d1_83) rfl k) ?_
  refine go _ (T36.setTop (mkF m 85 #[.val (.long q1), .second, .val (.long q2), .second, .val (.ref b1)] [(.long q1), (.long ((7 : Int64) * q2)), (.int (9 : Int32)), (.ref b1)])) (fun t k => XS.lloadN X36.here hx rfl (hb hby d1_84) rfl k) ?_
  refine go _ (T36.setTop (mkF m 86 #[.val (.long q1), .second, .val (.long q2), .second, .val (.ref b1)] [(.long (((7 : Int64) * q2) + q1)), (.int (9 : Int32)), (.ref b1)])) (fun t k => XS.ladd X36.here hx rfl (hb hby d1_85) rfl k) ?_
  obtain ⟨T40, h40, X40, e40, W40, A40, st40⟩ := own_stJ X36 hx hZ e36 A36 (i := 9) (by decide) (by decide) (g := (mkF m 86 #[.val (.long q1), .second, .val (.long q2), .second, .val (.ref b1)] [(.long (((7 : Int64) * q2) + q1)), (.int (9 : Int32)), (.ref b1)])) rfl rfl (hb hby d1_86)
  have Z41 : n0 ≤ h40.size := by rw [W40.size]; exact Z37
  have N42 := Fr.snoc X40 N38 ge_b1
  have K43 := K39.wr W40 (Or.inr sz_b1)
  refine go _ (T40.setTop (mkF m 87 #[.val (.long q1), .second, .val (.long q2), .second, .val (.ref b1)] [])) (st40) ?_
  refine go _ (T40.setTop (mkF m 89 #[.val (.long q1), .second, .val (.long q2), .second, .val (.ref b1)] [(.ref b1)])) (fun t k => XS.aload X40.here hx rfl (hb hby d1_87) rfl rfl k) ?_
  exact fin (some (.ref b1)) X40 (by decide) (by decide) (fun q => by cases q) (show Q_rm1 Z q1 q2 h0 n0 _ T40.heap _ from (by rw [e40]; exact ⟨b1, rfl, N42, ge_b1, sz_b1, K43, own_exg A40 (fun j hj => by rcases j with _ | _ | _ | _ | _ | _ | _ | _ | _ | _ | j <;> first | exact ⟨_, rfl⟩ | omega)⟩)) (fun fs hr => retA X40 hx hret rfl (hb hby d1_89) hr)
theorem d2_0 : decode method_3_code 0 = .ok (.bipush 10, 2) := by decide +kernel
theorem d2_2 : decode method_3_code 2 = .ok (.newarray .long, 2) := by decide +kernel
theorem d2_4 : decode method_3_code 4 = .ok (.astore_n 1, 1) := by decide +kernel
theorem d2_5 : decode method_3_code 5 = .ok (.aload_n 1, 1) := by decide +kernel
theorem d2_6 : decode method_3_code 6 = .ok (.iconst 0, 1) := by decide +kernel
theorem d2_7 : decode method_3_code 7 = .ok (.aload_n 0, 1) := by decide +kernel
theorem d2_8 : decode method_3_code 8 = .ok (.iconst 0, 1) := by decide +kernel
theorem d2_9 : decode method_3_code 9 = .ok (.laload, 1) := by decide +kernel
theorem d2_10 : decode method_3_code 10 = .ok (.lastore, 1) := by decide +kernel
theorem d2_11 : decode method_3_code 11 = .ok (.aload_n 1, 1) := by decide +kernel
theorem d2_12 : decode method_3_code 12 = .ok (.iconst 1, 1) := by decide +kernel
theorem d2_13 : decode method_3_code 13 = .ok (.aload_n 0, 1) := by decide +kernel
theorem d2_14 : decode method_3_code 14 = .ok (.iconst 1, 1) := by decide +kernel
theorem d2_15 : decode method_3_code 15 = .ok (.laload, 1) := by decide +kernel
theorem d2_16 : decode method_3_code 16 = .ok (.lastore, 1) := by decide +kernel
theorem d2_17 : decode method_3_code 17 = .ok (.aload_n 1, 1) := by decide +kernel
theorem d2_18 : decode method_3_code 18 = .ok (.iconst 2, 1) := by decide +kernel
theorem d2_19 : decode method_3_code 19 = .ok (.aload_n 0, 1) := by decide +kernel
theorem d2_20 : decode method_3_code 20 = .ok (.iconst 2, 1) := by decide +kernel
theorem d2_21 : decode method_3_code 21 = .ok (.laload, 1) := by decide +kernel
theorem d2_22 : decode method_3_code 22 = .ok (.lastore, 1) := by decide +kernel
theorem d2_23 : decode method_3_code 23 = .ok (.aload_n 1, 1) := by decide +kernel
theorem d2_24 : decode method_3_code 24 = .ok (.iconst 3, 1) := by decide +kernel
theorem d2_25 : decode method_3_code 25 = .ok (.aload_n 0, 1) := by decide +kernel
theorem d2_26 : decode method_3_code 26 = .ok (.iconst 3, 1) := by decide +kernel
theorem d2_27 : decode method_3_code 27 = .ok (.laload, 1) := by decide +kernel
theorem d2_28 : decode method_3_code 28 = .ok (.lastore, 1) := by decide +kernel
theorem d2_29 : decode method_3_code 29 = .ok (.aload_n 1, 1) := by decide +kernel
theorem d2_30 : decode method_3_code 30 = .ok (.iconst 4, 1) := by decide +kernel
theorem d2_31 : decode method_3_code 31 = .ok (.aload_n 0, 1) := by decide +kernel
theorem d2_32 : decode method_3_code 32 = .ok (.iconst 4, 1) := by decide +kernel
theorem d2_33 : decode method_3_code 33 = .ok (.laload, 1) := by decide +kernel
theorem d2_34 : decode method_3_code 34 = .ok (.lastore, 1) := by decide +kernel
theorem d2_35 : decode method_3_code 35 = .ok (.aload_n 1, 1) := by decide +kernel
theorem d2_36 : decode method_3_code 36 = .ok (.iconst 5, 1) := by decide +kernel
theorem d2_37 : decode method_3_code 37 = .ok (.aload_n 0, 1) := by decide +kernel
theorem d2_38 : decode method_3_code 38 = .ok (.iconst 5, 1) := by decide +kernel
theorem d2_39 : decode method_3_code 39 = .ok (.laload, 1) := by decide +kernel
theorem d2_40 : decode method_3_code 40 = .ok (.lastore, 1) := by decide +kernel
theorem d2_41 : decode method_3_code 41 = .ok (.aload_n 1, 1) := by decide +kernel
theorem d2_42 : decode method_3_code 42 = .ok (.bipush 6, 2) := by decide +kernel
theorem d2_44 : decode method_3_code 44 = .ok (.aload_n 0, 1) := by decide +kernel
theorem d2_45 : decode method_3_code 45 = .ok (.bipush 6, 2) := by decide +kernel
theorem d2_47 : decode method_3_code 47 = .ok (.laload, 1) := by decide +kernel
theorem d2_48 : decode method_3_code 48 = .ok (.lastore, 1) := by decide +kernel
theorem d2_49 : decode method_3_code 49 = .ok (.aload_n 1, 1) := by decide +kernel
theorem d2_50 : decode method_3_code 50 = .ok (.bipush 7, 2) := by decide +kernel
theorem d2_52 : decode method_3_code 52 = .ok (.aload_n 0, 1) := by decide +kernel
theorem d2_53 : decode method_3_code 53 = .ok (.bipush 7, 2) := by decide +kernel
theorem d2_55 : decode method_3_code 55 = .ok (.laload, 1) := by decide +kernel
theorem d2_56 : decode method_3_code 56 = .ok (.lastore, 1) := by decide +kernel
theorem d2_57 : decode method_3_code 57 = .ok (.aload_n 1, 1) := by decide +kernel
theorem d2_58 : decode method_3_code 58 = .ok (.bipush 8, 2) := by decide +kernel
theorem d2_60 : decode method_3_code 60 = .ok (.aload_n 0, 1) := by decide +kernel
theorem d2_61 : decode method_3_code 61 = .ok (.bipush 8, 2) := by decide +kernel
theorem d2_63 : decode method_3_code 63 = .ok (.laload, 1) := by decide +kernel
theorem d2_64 : decode method_3_code 64 = .ok (.lastore, 1) := by decide +kernel
theorem d2_65 : decode method_3_code 65 = .ok (.aload_n 1, 1) := by decide +kernel
theorem d2_66 : decode method_3_code 66 = .ok (.bipush 9, 2) := by decide +kernel
theorem d2_68 : decode method_3_code 68 = .ok (.aload_n 0, 1) := by decide +kernel
theorem d2_69 : decode method_3_code 69 = .ok (.bipush 9, 2) := by decide +kernel
theorem d2_71 : decode method_3_code 71 = .ok (.laload, 1) := by decide +kernel
theorem d2_72 : decode method_3_code 72 = .ok (.lastore, 1) := by decide +kernel
theorem d2_73 : decode method_3_code 73 = .ok (.aload_n 1, 1) := by decide +kernel
theorem d2_74 : decode method_3_code 74 = .ok (.areturn, 1) := by decide +kernel
theorem ef_rm2 (m : MethodId) (a1 : Addr) : entryFrame m #[(.ref a1)] 2 = mkF m 0 #[.val (.ref a1), .unset] [] := by first | (simp [entryFrame, mkF, argsToLocals, Value.category]; done) | rfl
def Q_rm2 (Z : State) (a1 : Addr) (f : Nat → Int64) (h0 : Heap) (n0 : Nat) (v : Option Value) (h : Heap) (L : List Loc) : Prop := ∃ b, v = some (.ref b) ∧ Fr n0 L ∧ n0 ≤ b ∧ h0.size ≤ b ∧ Keep h0 h [] ∧ AF Z h b .long 10 (fun j => .long (f j))
set_option maxRecDepth 65536 in
set_option maxHeartbeats 40000000 in
theorem rm2 (l : Launch) (Z : State) (a0 : Array Value) (hw : ∀ d ∈ tables_1, d.before a0 Z = true) (ws : List Jvm.Cond) (a1 : Addr) (f : Nat → Int64) (h0 : Heap) (n0 : Nat) (Z0 : n0 ≤ h0.size) (A0 : AF Z h0 a1 .long 10 (fun j => .long (f j))) :
    MetFree l (⟨"com/example/withhold/withhold/crypto/Field25519SubtractPinLaw", "copy10", "([J)[J"⟩ : MethodName) (head1 (Jvm.Cond.code (⟨"com/example/withhold/withhold/crypto/Field25519SubtractPinLaw", "copy10", "([J)[J"⟩ : MethodName) method_3_code 2 (some (.array .long)) :: ws) ({ frames := 0, cells := 1, slots := 10, locals := 0 } : Room)) (fun a U => a = #[(.ref a1)] ∧ Z.Warmed39 U.vm ∧ U.heap = h0) (fun _ _ _ _ _ => True) (fun _ U o U' => ∃ v L, o = .returned v ∧ Q_rm2 Z a1 f h0 n0 v U'.heap L ∧ FrameEnd U o U' L ({ frames := 0, cells := 1, slots := 10, locals := 0 } : Room).cells ({ frames := 0, cells := 1, slots := 10, locals := 0 } : Room).slots) := by
  refine own_body (Q := Q_rm2 Z a1 f h0 n0) (plainFor_of_name pn_7) ?_
  intro p e s m below meth c s₁ K go fin X0 hx hby hml hown hnm hret hZ e0
  have hown : s.vm.findClass "com/example/withhold/withhold/crypto/Field25519SubtractPinLaw" = some m.cls := hown
  have N0 := Fr.nil n0
  have K0 : Keep h0 h0 [] := Keep.refl h0 _
  refine go _ (s₁.setTop (mkF m 0 #[.val (.ref a1), .unset] [])) (fun t k => castTop (ef_rm2 m a1) k) ?_
  refine go _ (s₁.setTop (mkF m 2 #[.val (.ref a1), .unset] [(.int (10 : Int32))])) (fun t k => XS.bipush X0.here hx rfl (hb hby d2_0) k) ?_
  obtain ⟨T44, h44, b44, X44, e44, E44, g44, A44, st44⟩ := own_new X0 hx hZ (hw _ (List.mem_of_getElem? (i := 4) rfl)) e0 (g := (mkF m 2 #[.val (.ref a1), .unset] [(.int (10 : Int32))])) rfl (hb hby d2_2) rfl (k := 10) (by decide) 10 (by decide) (by decide) (by decide) (by decide)
  have ne_a1_b44 : a1 ≠ b44 := by rw [g44]; exact Nat.ne_of_lt A0.lt
  have Z45 : n0 ≤ h44.size := Nat.le_trans Z0 E44.1
  have ge_b44 : n0 ≤ b44 := by rw [g44]; exact Z0
  have sz_b44 : h0.size ≤ b44 := by rw [g44]; exact K0.1
  have K46 := K0.ext E44
  have A47 := A0.ext E44
  have A44' : AF Z h44 b44 .long 10 (fun _ => .long 0) := A44
  refine go _ (T44.setTop (mkF m 4 #[.val (.ref a1), .unset] [(.ref b44)])) (st44) ?_
  refine go _ (T44.setTop (mkF m 5 #[.val (.ref a1), .val (.ref b44)] [])) (fun t k => XS.astoreN X44.here hx rfl (hb hby d2_4) rfl rfl (l' := #[.val (.ref a1), .val (.ref b44)]) rfl k) ?_
  refine go _ (T44.setTop (mkF m 6 #[.val (.ref a1), .val (.ref b44)] [(.ref b44)])) (fun t k => XS.aloadN X44.here hx rfl (hb hby d2_5) rfl rfl k) ?_
  refine go _ (T44.setTop (mkF m 7 #[.val (.ref a1), .val (.ref b44)] [(.int (0 : Int32)), (.ref b44)])) (fun t k => XS.iconst X44.here hx rfl (hb hby d2_6) k) ?_
  refine go _ (T44.setTop (mkF m 8 #[.val (.ref a1), .val (.ref b44)] [(.ref a1), (.int (0 : Int32)), (.ref b44)])) (fun t k => XS.aloadN X44.here hx rfl (hb hby d2_7) rfl rfl k) ?_
  refine go _ (T44.setTop (mkF m 9 #[.val (.ref a1), .val (.ref b44)] [(.int (0 : Int32)), (.ref a1), (.int (0 : Int32)), (.ref b44)])) (fun t k => XS.iconst X44.here hx rfl (hb hby d2_8) k) ?_
  refine go _ (T44.setTop (mkF m 10 #[.val (.ref a1), .val (.ref b44)] [(.long (f 0)), (.int (0 : Int32)), (.ref b44)])) (own_ldJ X44 hx hZ e44 A47 (i := 0) (by decide) (by decide) (g := (mkF m 9 #[.val (.ref a1), .val (.ref b44)] [(.int (0 : Int32)), (.ref a1), (.int (0 : Int32)), (.ref b44)])) rfl rfl (hb hby d2_9) (v := (.long (f 0))) rfl) ?_
  obtain ⟨T48, h48, X48, e48, W48, A48, st48⟩ := own_stJ X44 hx hZ e44 A44' (i := 0) (by decide) (by decide) (g := (mkF m 10 #[.val (.ref a1), .val (.ref b44)] [(.long (f 0)), (.int (0 : Int32)), (.ref b44)])) rfl rfl (hb hby d2_10)
  have A49 := A47.other W48 ne_a1_b44
  have Z50 : n0 ≤ h48.size := by rw [W48.size]; exact Z45
  have N51 := Fr.snoc X48 N0 ge_b44
  have K52 := K46.wr W48 (Or.inr sz_b44)
  refine go _ (T48.setTop (mkF m 11 #[.val (.ref a1), .val (.ref b44)] [])) (st48) ?_
  refine go _ (T48.setTop (mkF m 12 #[.val (.ref a1), .val (.ref b44)] [(.ref b44)])) (fun t k => XS.aloadN X48.here hx rfl (hb hby d2_11) rfl rfl k) ?_
  refine go _ (T48.setTop (mkF m 13 #[.val (.ref a1), .val (.ref b44)] [(.int (1 : Int32)), (.ref b44)])) (fun t k => XS.iconst X48.here hx rfl (hb hby d2_12) k) ?_
  refine go _ (T48.setTop (mkF m 14 #[.val (.ref a1), .val (.ref b44)] [(.ref a1), (.int (1 : Int32)), (.ref b44)])) (fun t k => XS.aloadN X48.here hx rfl (hb hby d2_13) rfl rfl k) ?_
  refine go _ (T48.setTop (mkF m 15 #[.val (.ref a1), .val (.ref b44)] [(.int (1 : Int32)), (.ref a1), (.int (1 : Int32)), (.ref b44)])) (fun t k => XS.iconst X48.here hx rfl (hb hby d2_14) k) ?_
  refine go _ (T48.setTop (mkF m 16 #[.val (.ref a1), .val (.ref b44)] [(.long (f 1)), (.int (1 : Int32)), (.ref b44)])) (own_ldJ X48 hx hZ e48 A49 (i := 1) (by decide) (by decide) (g := (mkF m 15 #[.val (.ref a1), .val (.ref b44)] [(.int (1 : Int32)), (.ref a1), (.int (1 : Int32)), (.ref b44)])) rfl rfl (hb hby d2_15) (v := (.long (f 1))) rfl) ?_
  obtain ⟨T53, h53, X53, e53, W53, A53, st53⟩ := own_stJ X48 hx hZ e48 A48 (i := 1) (by decide) (by decide) (g := (mkF m 16 #[.val (.ref a1), .val (.ref b44)] [(.long (f 1)), (.int (1 : Int32)), (.ref b44)])) rfl rfl (hb hby d2_16)
  have A54 := A49.other W53 ne_a1_b44
  have Z55 : n0 ≤ h53.size := by rw [W53.size]; exact Z50
  have N56 := Fr.snoc X53 N51 ge_b44
  have K57 := K52.wr W53 (Or.inr sz_b44)
  refine go _ (T53.setTop (mkF m 17 #[.val (.ref a1), .val (.ref b44)] [])) (st53) ?_
  refine go _ (T53.setTop (mkF m 18 #[.val (.ref a1), .val (.ref b44)] [(.ref b44)])) (fun t k => XS.aloadN X53.here hx rfl (hb hby d2_17) rfl rfl k) ?_
  refine go _ (T53.setTop (mkF m 19 #[.val (.ref a1), .val (.ref b44)] [(.int (2 : Int32)), (.ref b44)])) (fun t k => XS.iconst X53.here hx rfl (hb hby d2_18) k) ?_
  refine go _ (T53.setTop (mkF m 20 #[.val (.ref a1), .val (.ref b44)] [(.ref a1), (.int (2 : Int32)), (.ref b44)])) (fun t k => XS.aloadN X53.here hx rfl (hb hby d2_19) rfl rfl k) ?_
  refine go _ (T53.setTop (mkF m 21 #[.val (.ref a1), .val (.ref b44)] [(.int (2 : Int32)), (.ref a1), (.int (2 : Int32)), (.ref b44)])) (fun t k => XS.iconst X53.here hx rfl (hb hby d2_20) k) ?_
  refine go _ (T53.setTop (mkF m 22 #[.val (.ref a1), .val (.ref b44)] [(.long (f 2)), (.int (2 : Int32)), (.ref b44)])) (own_ldJ X53 hx hZ e53 A54 (i := 2) (by decide) (by decide) (g := (mkF m 21 #[.val (.ref a1), .val (.ref b44)] [(.int (2 : Int32)), (.ref a1), (.int (2 : Int32)), (.ref b44)])) rfl rfl (hb hby d2_21) (v := (.long (f 2))) rfl) ?_
  obtain ⟨T58, h58, X58, e58, W58, A58, st58⟩ := own_stJ X53 hx hZ e53 A53 (i := 2) (by decide) (by decide) (g := (mkF m 22 #[.val (.ref a1), .val (.ref b44)] [(.long (f 2)), (.int (2 : Int32)), (.ref b44)])) rfl rfl (hb hby d2_22)
  have A59 := A54.other W58 ne_a1_b44
  have Z60 : n0 ≤ h58.size := by rw [W58.size]; exact Z55
  have N61 := Fr.snoc X58 N56 ge_b44
  have K62 := K57.wr W58 (Or.inr sz_b44)
  refine go _ (T58.setTop (mkF m 23 #[.val (.ref a1), .val (.ref b44)] [])) (st58) ?_
  refine go _ (T58.setTop (mkF m 24 #[.val (.ref a1), .val (.ref b44)] [(.ref b44)])) (fun t k => XS.aloadN X58.here hx rfl (hb hby d2_23) rfl rfl k) ?_
  refine go _ (T58.setTop (mkF m 25 #[.val (.ref a1), .val (.ref b44)] [(.int (3 : Int32)), (.ref b44)])) (fun t k => XS.iconst X58.here hx rfl (hb hby d2_24) k) ?_
  refine go _ (T58.setTop (mkF m 26 #[.val (.ref a1), .val (.ref b44)] [(.ref a1), (.int (3 : Int32)), (.ref b44)])) (fun t k => XS.aloadN X58.here hx rfl (hb hby d2_25) rfl rfl k) ?_
  refine go _ (T58.setTop (mkF m 27 #[.val (.ref a1), .val (.ref b44)] [(.int (3 : Int32)), (.ref a1), (.int (3 : Int32)), (.ref b44)])) (fun t k => XS.iconst X58.here hx rfl (hb hby d2_26) k) ?_
  refine go _ (T58.setTop (mkF m 28 #[.val (.ref a1), .val (.ref b44)] [(.long (f 3)), (.int (3 : Int32)), (.ref b44)])) (own_ldJ X58 hx hZ e58 A59 (i := 3) (by decide) (by decide) (g := (mkF m 27 #[.val (.ref a1), .val (.ref b44)] [(.int (3 : Int32)), (.ref a1), (.int (3 : Int32)), (.ref b44)])) rfl rfl (hb hby d2_27) (v := (.long (f 3))) rfl) ?_
  obtain ⟨T63, h63, X63, e63, W63, A63, st63⟩ := own_stJ X58 hx hZ e58 A58 (i := 3) (by decide) (by decide) (g := (mkF m 28 #[.val (.ref a1), .val (.ref b44)] [(.long (f 3)), (.int (3 : Int32)), (.ref b44)])) rfl rfl (hb hby d2_28)
  have A64 := A59.other W63 ne_a1_b44
  have Z65 : n0 ≤ h63.size := by rw [W63.size]; exact Z60
  have N66 := Fr.snoc X63 N61 ge_b44
  have K67 := K62.wr W63 (Or.inr sz_b44)
  refine go _ (T63.setTop (mkF m 29 #[.val (.ref a1), .val (.ref b44)] [])) (st63) ?_
  refine go _ (T63.setTop (mkF m 30 #[.val (.ref a1), .val (.ref b44)] [(.ref b44)])) (fun t k => XS.aloadN X63.here hx rfl (hb hby d2_29) rfl rfl k) ?_
  refine go _ (T63.setTop (mkF m 31 #[.val (.ref a1), .val (.ref b44)] [(.int (4 : Int32)), (.ref b44)])) (fun t k => XS.iconst X63.here hx rfl (hb hby d2_30) k) ?_
  refine go _ (T63.setTop (mkF m 32 #[.val (.ref a1), .val (.ref b44)] [(.ref a1), (.int (4 : Int32)), (.ref b44)])) (fun t k => XS.aloadN X63.here hx rfl (hb hby d2_31) rfl rfl k) ?_
  refine go _ (T63.setTop (mkF m 33 #[.val (.ref a1), .val (.ref b44)] [(.int (4 : Int32)), (.ref a1), (.int (4 : Int32)), (.ref b44)])) (fun t k => XS.iconst X63.here hx rfl (hb hby d2_32) k) ?_
  refine go _ (T63.setTop (mkF m 34 #[.val (.ref a1), .val (.ref b44)] [(.long (f 4)), (.int (4 : Int32)), (.ref b44)])) (own_ldJ X63 hx hZ e63 A64 (i := 4) (by decide) (by decide) (g := (mkF m 33 #[.val (.ref a1), .val (.ref b44)] [(.int (4 : Int32)), (.ref a1), (.int (4 : Int32)), (.ref b44)])) rfl rfl (hb hby d2_33) (v := (.long (f 4))) rfl) ?_
  obtain ⟨T68, h68, X68, e68, W68, A68, st68⟩ := own_stJ X63 hx hZ e63 A63 (i := 4) (by decide) (by decide) (g := (mkF m 34 #[.val (.ref a1), .val (.ref b44)] [(.long (f 4)), (.int (4 : Int32)), (.ref b44)])) rfl rfl (hb hby d2_34)
  have A69 := A64.other W68 ne_a1_b44
  have Z70 : n0 ≤ h68.size := by rw [W68.size]; exact Z65
  have N71 := Fr.snoc X68 N66 ge_b44
  have K72 := K67.wr W68 (Or.inr sz_b44)
  refine go _ (T68.setTop (mkF m 35 #[.val (.ref a1), .val (.ref b44)] [])) (st68) ?_
  refine go _ (T68.setTop (mkF m 36 #[.val (.ref a1), .val (.ref b44)] [(.ref b44)])) (fun t k => XS.aloadN X68.here hx rfl (hb hby d2_35) rfl rfl k) ?_
  refine go _ (T68.setTop (mkF m 37 #[.val (.ref a1), .val (.ref b44)] [(.int (5 : Int32)), (.ref b44)])) (fun t k => XS.iconst X68.here hx rfl (hb hby d2_36) k) ?_
  refine go _ (T68.setTop (mkF m 38 #[.val (.ref a1), .val (.ref b44)] [(.ref a1), (.int (5 : Int32)), (.ref b44)])) (fun t k => XS.aloadN X68.here hx rfl (hb hby d2_37) rfl rfl k) ?_
  refine go _ (T68.setTop (mkF m 39 #[.val (.ref a1), .val (.ref b44)] [(.int (5 : Int32)), (.ref a1), (.int (5 : Int32)), (.ref b44)])) (fun t k => XS.iconst X68.here hx rfl (hb hby d2_38) k) ?_
  refine go _ (T68.setTop (mkF m 40 #[.val (.ref a1), .val (.ref b44)] [(.long (f 5)), (.int (5 : Int32)), (.ref b44)])) (own_ldJ X68 hx hZ e68 A69 (i := 5) (by decide) (by decide) (g := (mkF m 39 #[.val (.ref a1), .val (.ref b44)] [(.int (5 : Int32)), (.ref a1), (.int (5 : Int32)), (.ref b44)])) rfl rfl (hb hby d2_39) (v := (.long (f 5))) rfl) ?_
  obtain ⟨T73, h73, X73, e73, W73, A73, st73⟩ := own_stJ X68 hx hZ e68 A68 (i := 5) (by decide) (by decide) (g := (mkF m 40 #[.val (.ref a1), .val (.ref b44)] [(.long (f 5)), (.int (5 : Int32)), (.ref b44)])) rfl rfl (hb hby d2_40)
  have A74 := A69.other W73 ne_a1_b44
  have Z75 : n0 ≤ h73.size := by rw [W73.size]; exact Z70
  have N76 := Fr.snoc X73 N71 ge_b44
  have K77 := K72.wr W73 (Or.inr sz_b44)
  refine go _ (T73.setTop (mkF m 41 #[.val (.ref a1), .val (.ref b44)] [])) (st73) ?_
  refine go _ (T73.setTop (mkF m 42 #[.val (.ref a1), .val (.ref b44)] [(.ref b44)])) (fun t k => XS.aloadN X73.here hx rfl (hb hby d2_41) rfl rfl k) ?_
  refine go _ (T73.setTop (mkF m 44 #[.val (.ref a1), .val (.ref b44)] [(.int (6 : Int32)), (.ref b44)])) (fun t k => XS.bipush X73.here hx rfl (hb hby d2_42) k) ?_
  refine go _ (T73.setTop (mkF m 45 #[.val (.ref a1), .val (.ref b44)] [(.ref a1), (.int (6 : Int32)), (.ref b44)])) (fun t k => XS.aloadN X73.here hx rfl (hb hby d2_44) rfl rfl k) ?_
  refine go _ (T73.setTop (mkF m 47 #[.val (.ref a1), .val (.ref b44)] [(.int (6 : Int32)), (.ref a1), (.int (6 : Int32)), (.ref b44)])) (fun t k => XS.bipush X73.here hx rfl (hb hby d2_45) k) ?_
  refine go _ (T73.setTop (mkF m 48 #[.val (.ref a1), .val (.ref b44)] [(.long (f 6)), (.int (6 : Int32)), (.ref b44)])) (own_ldJ X73 hx hZ e73 A74 (i := 6) (by decide) (by decide) (g := (mkF m 47 #[.val (.ref a1), .val (.ref b44)] [(.int (6 : Int32)), (.ref a1), (.int (6 : Int32)), (.ref b44)])) rfl rfl (hb hby d2_47) (v := (.long (f 6))) rfl) ?_
  obtain ⟨T78, h78, X78, e78, W78, A78, st78⟩ := own_stJ X73 hx hZ e73 A73 (i := 6) (by decide) (by decide) (g := (mkF m 48 #[.val (.ref a1), .val (.ref b44)] [(.long (f 6)), (.int (6 : Int32)), (.ref b44)])) rfl rfl (hb hby d2_48)
  have A79 := A74.other W78 ne_a1_b44
  have Z80 : n0 ≤ h78.size := by rw [W78.size]; exact Z75
  have N81 := Fr.snoc X78 N76 ge_b44
  have K82 := K77.wr W78 (Or.inr sz_b44)
  refine go _ (T78.setTop (mkF m 49 #[.val (.ref a1), .val (.ref b44)] [])) (st78) ?_
  refine go _ (T78.setTop (mkF m 50 #[.val (.ref a1), .val (.ref b44)] [(.ref b44)])) (fun t k => XS.aloadN X78.here hx rfl (hb hby d2_49) rfl rfl k) ?_
  refine go _ (T78.setTop (mkF m 52 #[.val (.ref a1), .val (.ref b44)] [(.int (7 : Int32)), (.ref b44)])) (fun t k => XS.bipush X78.here hx rfl (hb hby d2_50) k) ?_
  refine go _ (T78.setTop (mkF m 53 #[.val (.ref a1), .val (.ref b44)] [(.ref a1), (.int (7 : Int32)), (.ref b44)])) (fun t k => XS.aloadN X78.here hx rfl (hb hby d2_52) rfl rfl k) ?_
  refine go _ (T78.setTop (mkF m 55 #[.val (.ref a1), .val (.ref b44)] [(.int (7 : Int32)), (.ref a1), (.int (7 : Int32)), (.ref b44)])) (fun t k => XS.bipush X78.here hx rfl (hb hby d2_53) k) ?_
  refine go _ (T78.setTop (mkF m 56 #[.val (.ref a1), .val (.ref b44)] [(.long (f 7)), (.int (7 : Int32)), (.ref b44)])) (own_ldJ X78 hx hZ e78 A79 (i := 7) (by decide) (by decide) (g := (mkF m 55 #[.val (.ref a1), .val (.ref b44)] [(.int (7 : Int32)), (.ref a1), (.int (7 : Int32)), (.ref b44)])) rfl rfl (hb hby d2_55) (v := (.long (f 7))) rfl) ?_
  obtain ⟨T83, h83, X83, e83, W83, A83, st83⟩ := own_stJ X78 hx hZ e78 A78 (i := 7) (by decide) (by decide) (g := (mkF m 56 #[.val (.ref a1), .val (.ref b44)] [(.long (f 7)), (.int (7 : Int32)), (.ref b44)])) rfl rfl (hb hby d2_56)
  have A84 := A79.other W83 ne_a1_b44
  have Z85 : n0 ≤ h83.size := by rw [W83.size]; exact Z80
  have N86 := Fr.snoc X83 N81 ge_b44
  have K87 := K82.wr W83 (Or.inr sz_b44)
  refine go _ (T83.setTop (mkF m 57 #[.val (.ref a1), .val (.ref b44)] [])) (st83) ?_
  refine go _ (T83.setTop (mkF m 58 #[.val (.ref a1), .val (.ref b44)] [(.ref b44)])) (fun t k => XS.aloadN X83.here hx rfl (hb hby d2_57) rfl rfl k) ?_
  refine go _ (T83.setTop (mkF m 60 #[.val (.ref a1), .val (.ref b44)] [(.int (8 : Int32)), (.ref b44)])) (fun t k => XS.bipush X83.here hx rfl (hb hby d2_58) k) ?_
  refine go _ (T83.setTop (mkF m 61 #[.val (.ref a1), .val (.ref b44)] [(.ref a1), (.int (8 : Int32)), (.ref b44)])) (fun t k => XS.aloadN X83.here hx rfl (hb hby d2_60) rfl rfl k) ?_
  refine go _ (T83.setTop (mkF m 63 #[.val (.ref a1), .val (.ref b44)] [(.int (8 : Int32)), (.ref a1), (.int (8 : Int32)), (.ref b44)])) (fun t k => XS.bipush X83.here hx rfl (hb hby d2_61) k) ?_
  refine go _ (T83.setTop (mkF m 64 #[.val (.ref a1), .val (.ref b44)] [(.long (f 8)), (.int (8 : Int32)), (.ref b44)])) (own_ldJ X83 hx hZ e83 A84 (i := 8) (by decide) (by decide) (g := (mkF m 63 #[.val (.ref a1), .val (.ref b44)] [(.int (8 : Int32)), (.ref a1), (.int (8 : Int32)), (.ref b44)])) rfl rfl (hb hby d2_63) (v := (.long (f 8))) rfl) ?_
  obtain ⟨T88, h88, X88, e88, W88, A88, st88⟩ := own_stJ X83 hx hZ e83 A83 (i := 8) (by decide) (by decide) (g := (mkF m 64 #[.val (.ref a1), .val (.ref b44)] [(.long (f 8)), (.int (8 : Int32)), (.ref b44)])) rfl rfl (hb hby d2_64)
  have A89 := A84.other W88 ne_a1_b44
  have Z90 : n0 ≤ h88.size := by rw [W88.size]; exact Z85
  have N91 := Fr.snoc X88 N86 ge_b44
  have K92 := K87.wr W88 (Or.inr sz_b44)
  refine go _ (T88.setTop (mkF m 65 #[.val (.ref a1), .val (.ref b44)] [])) (st88) ?_
  refine go _ (T88.setTop (mkF m 66 #[.val (.ref a1), .val (.ref b44)] [(.ref b44)])) (fun t k => XS.aloadN X88.here hx rfl (hb hby d2_65) rfl rfl k) ?_
  refine go _ (T88.setTop (mkF m 68 #[.val (.ref a1), .val (.ref b44)] [(.int (9 : Int32)), (.ref b44)])) (fun t k => XS.bipush X88.here hx rfl (hb hby d2_66) k) ?_
  refine go _ (T88.setTop (mkF m 69 #[.val (.ref a1), .val (.ref b44)] [(.ref a1), (.int (9 : Int32)), (.ref b44)])) (fun t k => XS.aloadN X88.here hx rfl (hb hby d2_68) rfl rfl k) ?_
  refine go _ (T88.setTop (mkF m 71 #[.val (.ref a1), .val (.ref b44)] [(.int (9 : Int32)), (.ref a1), (.int (9 : Int32)), (.ref b44)])) (fun t k => XS.bipush X88.here hx rfl (hb hby d2_69) k) ?_
  refine go _ (T88.setTop (mkF m 72 #[.val (.ref a1), .val (.ref b44)] [(.long (f 9)), (.int (9 : Int32)), (.ref b44)])) (own_ldJ X88 hx hZ e88 A89 (i := 9) (by decide) (by decide) (g := (mkF m 71 #[.val (.ref a1), .val (.ref b44)] [(.int (9 : Int32)), (.ref a1), (.int (9 : Int32)), (.ref b44)])) rfl rfl (hb hby d2_71) (v := (.long (f 9))) rfl) ?_
  obtain ⟨T93, h93, X93, e93, W93, A93, st93⟩ := own_stJ X88 hx hZ e88 A88 (i := 9) (by decide) (by decide) (g := (mkF m 72 #[.val (.ref a1), .val (.ref b44)] [(.long (f 9)), (.int (9 : Int32)), (.ref b44)])) rfl rfl (hb hby d2_72)
  have A94 := A89.other W93 ne_a1_b44
  have Z95 : n0 ≤ h93.size := by rw [W93.size]; exact Z90
  have N96 := Fr.snoc X93 N91 ge_b44
  have K97 := K92.wr W93 (Or.inr sz_b44)
  refine go _ (T93.setTop (mkF m 73 #[.val (.ref a1), .val (.ref b44)] [])) (st93) ?_
  refine go _ (T93.setTop (mkF m 74 #[.val (.ref a1), .val (.ref b44)] [(.ref b44)])) (fun t k => XS.aloadN X93.here hx rfl (hb hby d2_73) rfl rfl k) ?_
  exact fin (some (.ref b44)) X93 (by decide) (by decide) (fun q => by cases q) (show Q_rm2 Z a1 f h0 n0 _ T93.heap _ from (by rw [e93]; exact ⟨b44, rfl, N96, ge_b44, sz_b44, K97, A93.congr (fun j hj => by rcases j with _ | _ | _ | _ | _ | _ | _ | _ | _ | _ | j <;> first | rfl | omega)⟩)) (fun fs hr => retA X93 hx hret rfl (hb hby d2_74) hr)
theorem own_nat {i : Nat} (h : i < 2 ^ 31) : (Int32.ofNat i).toInt = (i : Int) := Int32.toInt_ofNat_small h
theorem own_inc (i : Nat) : Int32.ofNat i + (1 : Int32) = Int32.ofNat (i + 1) := (inc_ofNat i).symm
theorem own_no {i : Nat} (h : i = 10) : ¬ (Int32.ofNat i < (10 : Int32)) := by subst h; decide
theorem own_yes {i : Nat} (h : i < 10) : Int32.ofNat i < (10 : Int32) := by rw [Int32.lt_iff_toInt_lt, own_nat (by omega), show (10 : Int32).toInt = 10 from by decide]; omega
def own_mix (d u : Nat → Int64) (i : Nat) : Nat → Int64 := fun j => if j < i then d j else u j
theorem own_mixnext {d u : Nat → Int64} {i : Nat} {y : Int64} (hy : y = d i) (j : Nat) (hj : j < 10) : own_upd (fun j => .long (own_mix d u i j)) i (.long y) j = .long (own_mix d u (i + 1) j) := by
  unfold own_upd own_mix
  by_cases q : j = i
  · subst q; rw [if_pos rfl, if_pos (by omega), hy]
  · rw [if_neg q]
    show Value.long (if j < i then d j else u j) = _
    by_cases q2 : j < i
    · rw [if_pos q2, if_pos (by omega)]
    · rw [if_neg q2, if_neg (by omega)]
theorem own_mixall {d u : Nat → Int64} {i j : Nat} (h : j < i) : own_mix d u i j = d j := if_pos h
theorem own_mixat {d u : Nat → Int64} {i : Nat} : own_mix d u i i = u i := if_neg (Nat.lt_irrefl i)
theorem d3_0 : decode prog_4_method_8_code 0 = .ok (.iconst 0, 1) := by decide +kernel
theorem d3_1 : decode prog_4_method_8_code 1 = .ok (.istore_n 3, 1) := by decide +kernel
theorem d3_2 : decode prog_4_method_8_code 2 = .ok (.iload_n 3, 1) := by decide +kernel
theorem d3_3 : decode prog_4_method_8_code 3 = .ok (.bipush 10, 2) := by decide +kernel
theorem d3_5 : decode prog_4_method_8_code 5 = .ok (.if_icmp .ge 19, 3) := by decide +kernel
theorem d3_8 : decode prog_4_method_8_code 8 = .ok (.aload_n 0, 1) := by decide +kernel
theorem d3_9 : decode prog_4_method_8_code 9 = .ok (.iload_n 3, 1) := by decide +kernel
theorem d3_10 : decode prog_4_method_8_code 10 = .ok (.aload_n 1, 1) := by decide +kernel
theorem d3_11 : decode prog_4_method_8_code 11 = .ok (.iload_n 3, 1) := by decide +kernel
theorem d3_12 : decode prog_4_method_8_code 12 = .ok (.laload, 1) := by decide +kernel
theorem d3_13 : decode prog_4_method_8_code 13 = .ok (.aload_n 2, 1) := by decide +kernel
theorem d3_14 : decode prog_4_method_8_code 14 = .ok (.iload_n 3, 1) := by decide +kernel
theorem d3_15 : decode prog_4_method_8_code 15 = .ok (.laload, 1) := by decide +kernel
theorem d3_16 : decode prog_4_method_8_code 16 = .ok (.lsub, 1) := by decide +kernel
theorem d3_17 : decode prog_4_method_8_code 17 = .ok (.lastore, 1) := by decide +kernel
theorem d3_18 : decode prog_4_method_8_code 18 = .ok (.iinc 3 1, 3) := by decide +kernel
theorem d3_21 : decode prog_4_method_8_code 21 = .ok (.goto (-19), 3) := by decide +kernel
theorem d3_24 : decode prog_4_method_8_code 24 = .ok (.return_, 1) := by decide +kernel
theorem pn_10 : plainName "com/example/withhold/withhold/crypto/Field25519" = true := by first | (simp [plainName, overriddenIn]; done) | decide +kernel
theorem ef_rm3d (m : MethodId) (a1 : Addr) (a2 : Addr) (a3 : Addr) : entryFrame m #[(.ref a1), (.ref a2), (.ref a3)] 4 = mkF m 0 #[.val (.ref a1), .val (.ref a2), .val (.ref a3), .unset] [] := by first | (simp [entryFrame, mkF, argsToLocals, Value.category]; done) | rfl
def Q_rm3d (Z : State) (a1 : Addr) (a2 : Addr) (a3 : Addr) (f : Nat → Int64) (g : Nat → Int64) (u : Nat → Int64) (h0 : Heap) (n0 : Nat) (v : Option Value) (h : Heap) (L : List Loc) : Prop := v = none ∧ Fr n0 L ∧ Keep h0 h [a1] ∧ AF Z h a1 .long 10 (fun j => .long (f j - g j))
set_option maxRecDepth 65536 in
set_option maxHeartbeats 40000000 in
theorem rm3d (l : Launch) (Z : State) (a0 : Array Value) (hw : ∀ d ∈ tables_1, d.before a0 Z = true) (ws : List Jvm.Cond) (a1 : Addr) (a2 : Addr) (a3 : Addr) (f : Nat → Int64) (g : Nat → Int64) (u : Nat → Int64) (h0 : Heap) (n0 : Nat) (Z0 : n0 ≤ h0.size) (A1 : AF Z h0 a1 .long 10 (fun j => .long (u j))) (A2 : AF Z h0 a2 .long 10 (fun j => .long (f j))) (A3 : AF Z h0 a3 .long 10 (fun j => .long (g j))) (g0 : n0 ≤ a1) (n2 : a2 ≠ a1) (n3 : a3 ≠ a1) :
    MetFree l (⟨"com/example/withhold/withhold/crypto/Field25519", "subtract", "([J[J[J)V"⟩ : MethodName) (head1 (Jvm.Cond.code (⟨"com/example/withhold/withhold/crypto/Field25519", "subtract", "([J[J[J)V"⟩ : MethodName) prog_4_method_8_code 4 none :: ws) ({ frames := 0, cells := 0, slots := 0, locals := 0 } : Room)) (fun a U => a = #[(.ref a1), (.ref a2), (.ref a3)] ∧ Z.Warmed39 U.vm ∧ U.heap = h0) (fun _ _ _ _ _ => True) (fun _ U o U' => ∃ v L, o = .returned v ∧ Q_rm3d Z a1 a2 a3 f g u h0 n0 v U'.heap L ∧ FrameEnd U o U' L ({ frames := 0, cells := 0, slots := 0, locals := 0 } : Room).cells ({ frames := 0, cells := 0, slots := 0, locals := 0 } : Room).slots) := by
  refine own_body (Q := Q_rm3d Z a1 a2 a3 f g u h0 n0) (plainFor_of_name pn_10) ?_
  intro p e s m below meth c s₁ K go fin X0 hx hby hml hown hnm hret hZ e0
  have hown : s.vm.findClass "com/example/withhold/withhold/crypto/Field25519" = some m.cls := hown
  have N0 := Fr.nil n0
  have K0 : Keep h0 h0 [a1] := Keep.refl h0 _
  refine go _ (s₁.setTop (mkF m 0 #[.val (.ref a1), .val (.ref a2), .val (.ref a3), .unset] [])) (fun t k => castTop (ef_rm3d m a1 a2 a3) k) ?_
  refine go _ (s₁.setTop (mkF m 1 #[.val (.ref a1), .val (.ref a2), .val (.ref a3), .unset] [(.int (0 : Int32))])) (fun t k => XS.iconst X0.here hx rfl (hb hby d3_0) k) ?_
  refine go _ (s₁.setTop (mkF m 2 #[.val (.ref a1), .val (.ref a2), .val (.ref a3), .val (.int (0 : Int32))] [])) (fun t k => XS.istoreN X0.here hx rfl (hb hby d3_1) rfl (l' := #[.val (.ref a1), .val (.ref a2), .val (.ref a3), .val (.int (0 : Int32))]) rfl k) ?_
  have loop : ∀ (k i : Nat) (T : State) (h : Heap) (locs : List Loc), i + k = 10 → Stand p l e ({ frames := 0, cells := 0, slots := 0, locals := 0 } : Room) s m #[(.ref a1), (.ref a2), (.ref a3)] below meth c T locs (0) (0) → T.heap = h → n0 ≤ h.size → Fr n0 locs → Keep h0 h [a1] → AF Z h a1 .long 10 (fun j => .long (own_mix (fun j => f j - g j) u i j)) → AF Z h a2 .long 10 (fun j => .long (f j)) → AF Z h a3 .long 10 (fun j => .long (g j)) → K (T.setTop (mkF m 2 #[.val (.ref a1), .val (.ref a2), .val (.ref a3), .val (.int (Int32.ofNat i))] [])) := by
    intro k
    induction k with
    | zero =>
      intro i T h locs hik X eh Zs Nf Kp B1 B2 B3
      refine go _ (T.setTop (mkF m 3 #[.val (.ref a1), .val (.ref a2), .val (.ref a3), .val (.int (Int32.ofNat i))] [(.int (Int32.ofNat i))])) (fun t k => XS.iloadN X.here hx rfl (hb hby d3_2) rfl k) ?_
      refine go _ (T.setTop (mkF m 5 #[.val (.ref a1), .val (.ref a2), .val (.ref a3), .val (.int (Int32.ofNat i))] [(.int (10 : Int32)), (.int (Int32.ofNat i))])) (fun t k => XS.bipush X.here hx rfl (hb hby d3_3) k) ?_
      have hc98 : ¬ ((Int32.ofNat i) < (10 : Int32)) := own_no (by omega)
      refine go _ (T.setTop (mkF m 24 #[.val (.ref a1), .val (.ref a2), .val (.ref a3), .val (.int (Int32.ofNat i))] [])) (fun t k => XS.icmpYes X.here hx rfl (pc0 := 5) (pc' := 24) rfl (hb hby d3_5) rfl (flt hc98).2.1 (by decide) (by decide) k) ?_
      exact fin none X (by decide) (by decide) (fun _ => rfl) (show Q_rm3d Z a1 a2 a3 f g u h0 n0 _ T.heap _ from (by rw [eh]; exact ⟨rfl, Nf, Kp, B1.congr (fun j hj => congrArg Value.long (own_mixall (by omega)))⟩)) (fun fs hr => X.returnOut hx hret (hb hby d3_24) hr)
    | succ k ih =>
      intro i T h locs hik X eh Zs Nf Kp B1 B2 B3
      refine go _ (T.setTop (mkF m 3 #[.val (.ref a1), .val (.ref a2), .val (.ref a3), .val (.int (Int32.ofNat i))] [(.int (Int32.ofNat i))])) (fun t k => XS.iloadN X.here hx rfl (hb hby d3_2) rfl k) ?_
      refine go _ (T.setTop (mkF m 5 #[.val (.ref a1), .val (.ref a2), .val (.ref a3), .val (.int (Int32.ofNat i))] [(.int (10 : Int32)), (.int (Int32.ofNat i))])) (fun t k => XS.bipush X.here hx rfl (hb hby d3_3) k) ?_
      have hc99 : ((Int32.ofNat i) < (10 : Int32)) := own_yes (by omega)
      refine go _ (T.setTop (mkF m 8 #[.val (.ref a1), .val (.ref a2), .val (.ref a3), .val (.int (Int32.ofNat i))] [])) (fun t k => XS.icmpNo X.here hx rfl (hb hby d3_5) rfl (tlt hc99).2.1 k) ?_
      refine go _ (T.setTop (mkF m 9 #[.val (.ref a1), .val (.ref a2), .val (.ref a3), .val (.int (Int32.ofNat i))] [(.ref a1)])) (fun t k => XS.aloadN X.here hx rfl (hb hby d3_8) rfl rfl k) ?_
      refine go _ (T.setTop (mkF m 10 #[.val (.ref a1), .val (.ref a2), .val (.ref a3), .val (.int (Int32.ofNat i))] [(.int (Int32.ofNat i)), (.ref a1)])) (fun t k => XS.iloadN X.here hx rfl (hb hby d3_9) rfl k) ?_
      refine go _ (T.setTop (mkF m 11 #[.val (.ref a1), .val (.ref a2), .val (.ref a3), .val (.int (Int32.ofNat i))] [(.ref a2), (.int (Int32.ofNat i)), (.ref a1)])) (fun t k => XS.aloadN X.here hx rfl (hb hby d3_10) rfl rfl k) ?_
      refine go _ (T.setTop (mkF m 12 #[.val (.ref a1), .val (.ref a2), .val (.ref a3), .val (.int (Int32.ofNat i))] [(.int (Int32.ofNat i)), (.ref a2), (.int (Int32.ofNat i)), (.ref a1)])) (fun t k => XS.iloadN X.here hx rfl (hb hby d3_11) rfl k) ?_
      refine go _ (T.setTop (mkF m 13 #[.val (.ref a1), .val (.ref a2), .val (.ref a3), .val (.int (Int32.ofNat i))] [(.long (f i)), (.int (Int32.ofNat i)), (.ref a1)])) (own_ldJ X hx hZ eh B2 (i := i) (own_nat (by omega)) (by omega) (g := (mkF m 12 #[.val (.ref a1), .val (.ref a2), .val (.ref a3), .val (.int (Int32.ofNat i))] [(.int (Int32.ofNat i)), (.ref a2), (.int (Int32.ofNat i)), (.ref a1)])) rfl rfl (hb hby d3_12) (v := (.long (f i))) rfl) ?_
      refine go _ (T.setTop (mkF m 14 #[.val (.ref a1), .val (.ref a2), .val (.ref a3), .val (.int (Int32.ofNat i))] [(.ref a3), (.long (f i)), (.int (Int32.ofNat i)), (.ref a1)])) (fun t k => XS.aloadN X.here hx rfl (hb hby d3_13) rfl rfl k) ?_
      refine go _ (T.setTop (mkF m 15 #[.val (.ref a1), .val (.ref a2), .val (.ref a3), .val (.int (Int32.ofNat i))] [(.int (Int32.ofNat i)), (.ref a3), (.long (f i)), (.int (Int32.ofNat i)), (.ref a1)])) (fun t k => XS.iloadN X.here hx rfl (hb hby d3_14) rfl k) ?_
      refine go _ (T.setTop (mkF m 16 #[.val (.ref a1), .val (.ref a2), .val (.ref a3), .val (.int (Int32.ofNat i))] [(.long (g i)), (.long (f i)), (.int (Int32.ofNat i)), (.ref a1)])) (own_ldJ X hx hZ eh B3 (i := i) (own_nat (by omega)) (by omega) (g := (mkF m 15 #[.val (.ref a1), .val (.ref a2), .val (.ref a3), .val (.int (Int32.ofNat i))] [(.int (Int32.ofNat i)), (.ref a3), (.long (f i)), (.int (Int32.ofNat i)), (.ref a1)])) rfl rfl (hb hby d3_15) (v := (.long (g i))) rfl) ?_
      refine go _ (T.setTop (mkF m 17 #[.val (.ref a1), .val (.ref a2), .val (.ref a3), .val (.int (Int32.ofNat i))] [(.long ((f i) - (g i))), (.int (Int32.ofNat i)), (.ref a1)])) (fun t k => XS.lsub X.here hx rfl (hb hby d3_16) rfl k) ?_
      obtain ⟨T100, h100, X100, e100, W100, A100, st100⟩ := own_stJ X hx hZ eh B1 (i := i) (own_nat (by omega)) (by omega) (g := (mkF m 17 #[.val (.ref a1), .val (.ref a2), .val (.ref a3), .val (.int (Int32.ofNat i))] [(.long ((f i) - (g i))), (.int (Int32.ofNat i)), (.ref a1)])) rfl rfl (hb hby d3_17)
      have A101 := B2.other W100 n2
      have A102 := B3.other W100 n3
      have Z103 : n0 ≤ h100.size := by rw [W100.size]; exact Zs
      have N104 := Fr.snoc X100 Nf g0
      have K105 := Kp.wr W100 (Or.inl (by simp))
      refine go _ (T100.setTop (mkF m 18 #[.val (.ref a1), .val (.ref a2), .val (.ref a3), .val (.int (Int32.ofNat i))] [])) (st100) ?_
      refine go _ (T100.setTop (mkF m 21 #[.val (.ref a1), .val (.ref a2), .val (.ref a3), .val (.int ((Int32.ofNat i) + (1 : Int32)))] [])) (fun t k => XS.iinc X100.here hx rfl (hb hby d3_18) rfl (l' := #[.val (.ref a1), .val (.ref a2), .val (.ref a3), .val (.int ((Int32.ofNat i) + (1 : Int32)))]) rfl k) ?_
      refine go _ (T100.setTop (mkF m 2 #[.val (.ref a1), .val (.ref a2), .val (.ref a3), .val (.int ((Int32.ofNat i) + (1 : Int32)))] [])) (fun t k => XS.goto X100.here hx rfl (pc0 := 21) (pc' := 2) rfl (hb hby d3_21) (by decide) (by decide) k) ?_
      rw [own_inc]
      exact ih (i + 1) _ _ _ (by omega) X100 e100 Z103 N104 K105 (A100.congr (own_mixnext rfl)) A101 A102
  exact loop 10 0 _ _ _ (by omega) X0 e0 Z0 N0 K0 A1 A2 A3
theorem ef_rm3f (m : MethodId) (a1 : Addr) (a3 : Addr) : entryFrame m #[(.ref a1), (.ref a1), (.ref a3)] 4 = mkF m 0 #[.val (.ref a1), .val (.ref a1), .val (.ref a3), .unset] [] := by first | (simp [entryFrame, mkF, argsToLocals, Value.category]; done) | rfl
def Q_rm3f (Z : State) (a1 : Addr) (a3 : Addr) (f : Nat → Int64) (g : Nat → Int64) (h0 : Heap) (n0 : Nat) (v : Option Value) (h : Heap) (L : List Loc) : Prop := v = none ∧ Fr n0 L ∧ Keep h0 h [a1] ∧ AF Z h a1 .long 10 (fun j => .long (f j - g j))
set_option maxRecDepth 65536 in
set_option maxHeartbeats 40000000 in
theorem rm3f (l : Launch) (Z : State) (a0 : Array Value) (hw : ∀ d ∈ tables_1, d.before a0 Z = true) (ws : List Jvm.Cond) (a1 : Addr) (a3 : Addr) (f : Nat → Int64) (g : Nat → Int64) (h0 : Heap) (n0 : Nat) (Z0 : n0 ≤ h0.size) (A1 : AF Z h0 a1 .long 10 (fun j => .long (f j))) (A3 : AF Z h0 a3 .long 10 (fun j => .long (g j))) (g0 : n0 ≤ a1) (n3 : a3 ≠ a1) :
    MetFree l (⟨"com/example/withhold/withhold/crypto/Field25519", "subtract", "([J[J[J)V"⟩ : MethodName) (head1 (Jvm.Cond.code (⟨"com/example/withhold/withhold/crypto/Field25519", "subtract", "([J[J[J)V"⟩ : MethodName) prog_4_method_8_code 4 none :: ws) ({ frames := 0, cells := 0, slots := 0, locals := 0 } : Room)) (fun a U => a = #[(.ref a1), (.ref a1), (.ref a3)] ∧ Z.Warmed39 U.vm ∧ U.heap = h0) (fun _ _ _ _ _ => True) (fun _ U o U' => ∃ v L, o = .returned v ∧ Q_rm3f Z a1 a3 f g h0 n0 v U'.heap L ∧ FrameEnd U o U' L ({ frames := 0, cells := 0, slots := 0, locals := 0 } : Room).cells ({ frames := 0, cells := 0, slots := 0, locals := 0 } : Room).slots) := by
  refine own_body (Q := Q_rm3f Z a1 a3 f g h0 n0) (plainFor_of_name pn_10) ?_
  intro p e s m below meth c s₁ K go fin X0 hx hby hml hown hnm hret hZ e0
  have hown : s.vm.findClass "com/example/withhold/withhold/crypto/Field25519" = some m.cls := hown
  have N0 := Fr.nil n0
  have K0 : Keep h0 h0 [a1] := Keep.refl h0 _
  refine go _ (s₁.setTop (mkF m 0 #[.val (.ref a1), .val (.ref a1), .val (.ref a3), .unset] [])) (fun t k => castTop (ef_rm3f m a1 a3) k) ?_
  refine go _ (s₁.setTop (mkF m 1 #[.val (.ref a1), .val (.ref a1), .val (.ref a3), .unset] [(.int (0 : Int32))])) (fun t k => XS.iconst X0.here hx rfl (hb hby d3_0) k) ?_
  refine go _ (s₁.setTop (mkF m 2 #[.val (.ref a1), .val (.ref a1), .val (.ref a3), .val (.int (0 : Int32))] [])) (fun t k => XS.istoreN X0.here hx rfl (hb hby d3_1) rfl (l' := #[.val (.ref a1), .val (.ref a1), .val (.ref a3), .val (.int (0 : Int32))]) rfl k) ?_
  have loop : ∀ (k i : Nat) (T : State) (h : Heap) (locs : List Loc), i + k = 10 → Stand p l e ({ frames := 0, cells := 0, slots := 0, locals := 0 } : Room) s m #[(.ref a1), (.ref a1), (.ref a3)] below meth c T locs (0) (0) → T.heap = h → n0 ≤ h.size → Fr n0 locs → Keep h0 h [a1] → AF Z h a1 .long 10 (fun j => .long (own_mix (fun j => f j - g j) f i j)) → AF Z h a3 .long 10 (fun j => .long (g j)) → K (T.setTop (mkF m 2 #[.val (.ref a1), .val (.ref a1), .val (.ref a3), .val (.int (Int32.ofNat i))] [])) := by
    intro k
    induction k with
    | zero =>
      intro i T h locs hik X eh Zs Nf Kp B1 B3
      refine go _ (T.setTop (mkF m 3 #[.val (.ref a1), .val (.ref a1), .val (.ref a3), .val (.int (Int32.ofNat i))] [(.int (Int32.ofNat i))])) (fun t k => XS.iloadN X.here hx rfl (hb hby d3_2) rfl k) ?_
      refine go _ (T.setTop (mkF m 5 #[.val (.ref a1), .val (.ref a1), .val (.ref a3), .val (.int (Int32.ofNat i))] [(.int (10 : Int32)), (.int (Int32.ofNat i))])) (fun t k => XS.bipush X.here hx rfl (hb hby d3_3) k) ?_
      have hc106 : ¬ ((Int32.ofNat i) < (10 : Int32)) := own_no (by omega)
      refine go _ (T.setTop (mkF m 24 #[.val (.ref a1), .val (.ref a1), .val (.ref a3), .val (.int (Int32.ofNat i))] [])) (fun t k => XS.icmpYes X.here hx rfl (pc0 := 5) (pc' := 24) rfl (hb hby d3_5) rfl (flt hc106).2.1 (by decide) (by decide) k) ?_
      exact fin none X (by decide) (by decide) (fun _ => rfl) (show Q_rm3f Z a1 a3 f g h0 n0 _ T.heap _ from (by rw [eh]; exact ⟨rfl, Nf, Kp, B1.congr (fun j hj => congrArg Value.long (own_mixall (by omega)))⟩)) (fun fs hr => X.returnOut hx hret (hb hby d3_24) hr)
    | succ k ih =>
      intro i T h locs hik X eh Zs Nf Kp B1 B3
      refine go _ (T.setTop (mkF m 3 #[.val (.ref a1), .val (.ref a1), .val (.ref a3), .val (.int (Int32.ofNat i))] [(.int (Int32.ofNat i))])) (fun t k => XS.iloadN X.here hx rfl (hb hby d3_2) rfl k) ?_
      refine go _ (T.setTop (mkF m 5 #[.val (.ref a1), .val (.ref a1), .val (.ref a3), .val (.int (Int32.ofNat i))] [(.int (10 : Int32)), (.int (Int32.ofNat i))])) (fun t k => XS.bipush X.here hx rfl (hb hby d3_3) k) ?_
      have hc107 : ((Int32.ofNat i) < (10 : Int32)) := own_yes (by omega)
      refine go _ (T.setTop (mkF m 8 #[.val (.ref a1), .val (.ref a1), .val (.ref a3), .val (.int (Int32.ofNat i))] [])) (fun t k => XS.icmpNo X.here hx rfl (hb hby d3_5) rfl (tlt hc107).2.1 k) ?_
      refine go _ (T.setTop (mkF m 9 #[.val (.ref a1), .val (.ref a1), .val (.ref a3), .val (.int (Int32.ofNat i))] [(.ref a1)])) (fun t k => XS.aloadN X.here hx rfl (hb hby d3_8) rfl rfl k) ?_
      refine go _ (T.setTop (mkF m 10 #[.val (.ref a1), .val (.ref a1), .val (.ref a3), .val (.int (Int32.ofNat i))] [(.int (Int32.ofNat i)), (.ref a1)])) (fun t k => XS.iloadN X.here hx rfl (hb hby d3_9) rfl k) ?_
      refine go _ (T.setTop (mkF m 11 #[.val (.ref a1), .val (.ref a1), .val (.ref a3), .val (.int (Int32.ofNat i))] [(.ref a1), (.int (Int32.ofNat i)), (.ref a1)])) (fun t k => XS.aloadN X.here hx rfl (hb hby d3_10) rfl rfl k) ?_
      refine go _ (T.setTop (mkF m 12 #[.val (.ref a1), .val (.ref a1), .val (.ref a3), .val (.int (Int32.ofNat i))] [(.int (Int32.ofNat i)), (.ref a1), (.int (Int32.ofNat i)), (.ref a1)])) (fun t k => XS.iloadN X.here hx rfl (hb hby d3_11) rfl k) ?_
      refine go _ (T.setTop (mkF m 13 #[.val (.ref a1), .val (.ref a1), .val (.ref a3), .val (.int (Int32.ofNat i))] [(.long (f i)), (.int (Int32.ofNat i)), (.ref a1)])) (own_ldJ X hx hZ eh B1 (i := i) (own_nat (by omega)) (by omega) (g := (mkF m 12 #[.val (.ref a1), .val (.ref a1), .val (.ref a3), .val (.int (Int32.ofNat i))] [(.int (Int32.ofNat i)), (.ref a1), (.int (Int32.ofNat i)), (.ref a1)])) rfl rfl (hb hby d3_12) (v := (.long (f i))) (congrArg Value.long own_mixat)) ?_
      refine go _ (T.setTop (mkF m 14 #[.val (.ref a1), .val (.ref a1), .val (.ref a3), .val (.int (Int32.ofNat i))] [(.ref a3), (.long (f i)), (.int (Int32.ofNat i)), (.ref a1)])) (fun t k => XS.aloadN X.here hx rfl (hb hby d3_13) rfl rfl k) ?_
      refine go _ (T.setTop (mkF m 15 #[.val (.ref a1), .val (.ref a1), .val (.ref a3), .val (.int (Int32.ofNat i))] [(.int (Int32.ofNat i)), (.ref a3), (.long (f i)), (.int (Int32.ofNat i)), (.ref a1)])) (fun t k => XS.iloadN X.here hx rfl (hb hby d3_14) rfl k) ?_
      refine go _ (T.setTop (mkF m 16 #[.val (.ref a1), .val (.ref a1), .val (.ref a3), .val (.int (Int32.ofNat i))] [(.long (g i)), (.long (f i)), (.int (Int32.ofNat i)), (.ref a1)])) (own_ldJ X hx hZ eh B3 (i := i) (own_nat (by omega)) (by omega) (g := (mkF m 15 #[.val (.ref a1), .val (.ref a1), .val (.ref a3), .val (.int (Int32.ofNat i))] [(.int (Int32.ofNat i)), (.ref a3), (.long (f i)), (.int (Int32.ofNat i)), (.ref a1)])) rfl rfl (hb hby d3_15) (v := (.long (g i))) rfl) ?_
      refine go _ (T.setTop (mkF m 17 #[.val (.ref a1), .val (.ref a1), .val (.ref a3), .val (.int (Int32.ofNat i))] [(.long ((f i) - (g i))), (.int (Int32.ofNat i)), (.ref a1)])) (fun t k => XS.lsub X.here hx rfl (hb hby d3_16) rfl k) ?_
      obtain ⟨T108, h108, X108, e108, W108, A108, st108⟩ := own_stJ X hx hZ eh B1 (i := i) (own_nat (by omega)) (by omega) (g := (mkF m 17 #[.val (.ref a1), .val (.ref a1), .val (.ref a3), .val (.int (Int32.ofNat i))] [(.long ((f i) - (g i))), (.int (Int32.ofNat i)), (.ref a1)])) rfl rfl (hb hby d3_17)
      have A109 := B3.other W108 n3
      have Z110 : n0 ≤ h108.size := by rw [W108.size]; exact Zs
      have N111 := Fr.snoc X108 Nf g0
      have K112 := Kp.wr W108 (Or.inl (by simp))
      refine go _ (T108.setTop (mkF m 18 #[.val (.ref a1), .val (.ref a1), .val (.ref a3), .val (.int (Int32.ofNat i))] [])) (st108) ?_
      refine go _ (T108.setTop (mkF m 21 #[.val (.ref a1), .val (.ref a1), .val (.ref a3), .val (.int ((Int32.ofNat i) + (1 : Int32)))] [])) (fun t k => XS.iinc X108.here hx rfl (hb hby d3_18) rfl (l' := #[.val (.ref a1), .val (.ref a1), .val (.ref a3), .val (.int ((Int32.ofNat i) + (1 : Int32)))]) rfl k) ?_
      refine go _ (T108.setTop (mkF m 2 #[.val (.ref a1), .val (.ref a1), .val (.ref a3), .val (.int ((Int32.ofNat i) + (1 : Int32)))] [])) (fun t k => XS.goto X108.here hx rfl (pc0 := 21) (pc' := 2) rfl (hb hby d3_21) (by decide) (by decide) k) ?_
      rw [own_inc]
      exact ih (i + 1) _ _ _ (by omega) X108 e108 Z110 N111 K112 (A108.congr (own_mixnext rfl)) A109
  exact loop 10 0 _ _ _ (by omega) X0 e0 Z0 N0 K0 A1 A3
theorem ef_rm3g (m : MethodId) (a1 : Addr) (a2 : Addr) : entryFrame m #[(.ref a1), (.ref a2), (.ref a1)] 4 = mkF m 0 #[.val (.ref a1), .val (.ref a2), .val (.ref a1), .unset] [] := by first | (simp [entryFrame, mkF, argsToLocals, Value.category]; done) | rfl
def Q_rm3g (Z : State) (a1 : Addr) (a2 : Addr) (f : Nat → Int64) (g : Nat → Int64) (h0 : Heap) (n0 : Nat) (v : Option Value) (h : Heap) (L : List Loc) : Prop := v = none ∧ Fr n0 L ∧ Keep h0 h [a1] ∧ AF Z h a1 .long 10 (fun j => .long (f j - g j))
set_option maxRecDepth 65536 in
set_option maxHeartbeats 40000000 in
theorem rm3g (l : Launch) (Z : State) (a0 : Array Value) (hw : ∀ d ∈ tables_1, d.before a0 Z = true) (ws : List Jvm.Cond) (a1 : Addr) (a2 : Addr) (f : Nat → Int64) (g : Nat → Int64) (h0 : Heap) (n0 : Nat) (Z0 : n0 ≤ h0.size) (A1 : AF Z h0 a1 .long 10 (fun j => .long (g j))) (A2 : AF Z h0 a2 .long 10 (fun j => .long (f j))) (g0 : n0 ≤ a1) (n2 : a2 ≠ a1) :
    MetFree l (⟨"com/example/withhold/withhold/crypto/Field25519", "subtract", "([J[J[J)V"⟩ : MethodName) (head1 (Jvm.Cond.code (⟨"com/example/withhold/withhold/crypto/Field25519", "subtract", "([J[J[J)V"⟩ : MethodName) prog_4_method_8_code 4 none :: ws) ({ frames := 0, cells := 0, slots := 0, locals := 0 } : Room)) (fun a U => a = #[(.ref a1), (.ref a2), (.ref a1)] ∧ Z.Warmed39 U.vm ∧ U.heap = h0) (fun _ _ _ _ _ => True) (fun _ U o U' => ∃ v L, o = .returned v ∧ Q_rm3g Z a1 a2 f g h0 n0 v U'.heap L ∧ FrameEnd U o U' L ({ frames := 0, cells := 0, slots := 0, locals := 0 } : Room).cells ({ frames := 0, cells := 0, slots := 0, locals := 0 } : Room).slots) := by
  refine own_body (Q := Q_rm3g Z a1 a2 f g h0 n0) (plainFor_of_name pn_10) ?_
  intro p e s m below meth c s₁ K go fin X0 hx hby hml hown hnm hret hZ e0
  have hown : s.vm.findClass "com/example/withhold/withhold/crypto/Field25519" = some m.cls := hown
  have N0 := Fr.nil n0
  have K0 : Keep h0 h0 [a1] := Keep.refl h0 _
  refine go _ (s₁.setTop (mkF m 0 #[.val (.ref a1), .val (.ref a2), .val (.ref a1), .unset] [])) (fun t k => castTop (ef_rm3g m a1 a2) k) ?_
  refine go _ (s₁.setTop (mkF m 1 #[.val (.ref a1), .val (.ref a2), .val (.ref a1), .unset] [(.int (0 : Int32))])) (fun t k => XS.iconst X0.here hx rfl (hb hby d3_0) k) ?_
  refine go _ (s₁.setTop (mkF m 2 #[.val (.ref a1), .val (.ref a2), .val (.ref a1), .val (.int (0 : Int32))] [])) (fun t k => XS.istoreN X0.here hx rfl (hb hby d3_1) rfl (l' := #[.val (.ref a1), .val (.ref a2), .val (.ref a1), .val (.int (0 : Int32))]) rfl k) ?_
  have loop : ∀ (k i : Nat) (T : State) (h : Heap) (locs : List Loc), i + k = 10 → Stand p l e ({ frames := 0, cells := 0, slots := 0, locals := 0 } : Room) s m #[(.ref a1), (.ref a2), (.ref a1)] below meth c T locs (0) (0) → T.heap = h → n0 ≤ h.size → Fr n0 locs → Keep h0 h [a1] → AF Z h a1 .long 10 (fun j => .long (own_mix (fun j => f j - g j) g i j)) → AF Z h a2 .long 10 (fun j => .long (f j)) → K (T.setTop (mkF m 2 #[.val (.ref a1), .val (.ref a2), .val (.ref a1), .val (.int (Int32.ofNat i))] [])) := by
    intro k
    induction k with
    | zero =>
      intro i T h locs hik X eh Zs Nf Kp B1 B2
      refine go _ (T.setTop (mkF m 3 #[.val (.ref a1), .val (.ref a2), .val (.ref a1), .val (.int (Int32.ofNat i))] [(.int (Int32.ofNat i))])) (fun t k => XS.iloadN X.here hx rfl (hb hby d3_2) rfl k) ?_
      refine go _ (T.setTop (mkF m 5 #[.val (.ref a1), .val (.ref a2), .val (.ref a1), .val (.int (Int32.ofNat i))] [(.int (10 : Int32)), (.int (Int32.ofNat i))])) (fun t k => XS.bipush X.here hx rfl (hb hby d3_3) k) ?_
      have hc113 : ¬ ((Int32.ofNat i) < (10 : Int32)) := own_no (by omega)
      refine go _ (T.setTop (mkF m 24 #[.val (.ref a1), .val (.ref a2), .val (.ref a1), .val (.int (Int32.ofNat i))] [])) (fun t k => XS.icmpYes X.here hx rfl (pc0 := 5) (pc' := 24) rfl (hb hby d3_5) rfl (flt hc113).2.1 (by decide) (by decide) k) ?_
      exact fin none X (by decide) (by decide) (fun _ => rfl) (show Q_rm3g Z a1 a2 f g h0 n0 _ T.heap _ from (by rw [eh]; exact ⟨rfl, Nf, Kp, B1.congr (fun j hj => congrArg Value.long (own_mixall (by omega)))⟩)) (fun fs hr => X.returnOut hx hret (hb hby d3_24) hr)
    | succ k ih =>
      intro i T h locs hik X eh Zs Nf Kp B1 B2
      refine go _ (T.setTop (mkF m 3 #[.val (.ref a1), .val (.ref a2), .val (.ref a1), .val (.int (Int32.ofNat i))] [(.int (Int32.ofNat i))])) (fun t k => XS.iloadN X.here hx rfl (hb hby d3_2) rfl k) ?_
      refine go _ (T.setTop (mkF m 5 #[.val (.ref a1), .val (.ref a2), .val (.ref a1), .val (.int (Int32.ofNat i))] [(.int (10 : Int32)), (.int (Int32.ofNat i))])) (fun t k => XS.bipush X.here hx rfl (hb hby d3_3) k) ?_
      have hc114 : ((Int32.ofNat i) < (10 : Int32)) := own_yes (by omega)
      refine go _ (T.setTop (mkF m 8 #[.val (.ref a1), .val (.ref a2), .val (.ref a1), .val (.int (Int32.ofNat i))] [])) (fun t k => XS.icmpNo X.here hx rfl (hb hby d3_5) rfl (tlt hc114).2.1 k) ?_
      refine go _ (T.setTop (mkF m 9 #[.val (.ref a1), .val (.ref a2), .val (.ref a1), .val (.int (Int32.ofNat i))] [(.ref a1)])) (fun t k => XS.aloadN X.here hx rfl (hb hby d3_8) rfl rfl k) ?_
      refine go _ (T.setTop (mkF m 10 #[.val (.ref a1), .val (.ref a2), .val (.ref a1), .val (.int (Int32.ofNat i))] [(.int (Int32.ofNat i)), (.ref a1)])) (fun t k => XS.iloadN X.here hx rfl (hb hby d3_9) rfl k) ?_
      refine go _ (T.setTop (mkF m 11 #[.val (.ref a1), .val (.ref a2), .val (.ref a1), .val (.int (Int32.ofNat i))] [(.ref a2), (.int (Int32.ofNat i)), (.ref a1)])) (fun t k => XS.aloadN X.here hx rfl (hb hby d3_10) rfl rfl k) ?_
      refine go _ (T.setTop (mkF m 12 #[.val (.ref a1), .val (.ref a2), .val (.ref a1), .val (.int (Int32.ofNat i))] [(.int (Int32.ofNat i)), (.ref a2), (.int (Int32.ofNat i)), (.ref a1)])) (fun t k => XS.iloadN X.here hx rfl (hb hby d3_11) rfl k) ?_
      refine go _ (T.setTop (mkF m 13 #[.val (.ref a1), .val (.ref a2), .val (.ref a1), .val (.int (Int32.ofNat i))] [(.long (f i)), (.int (Int32.ofNat i)), (.ref a1)])) (own_ldJ X hx hZ eh B2 (i := i) (own_nat (by omega)) (by omega) (g := (mkF m 12 #[.val (.ref a1), .val (.ref a2), .val (.ref a1), .val (.int (Int32.ofNat i))] [(.int (Int32.ofNat i)), (.ref a2), (.int (Int32.ofNat i)), (.ref a1)])) rfl rfl (hb hby d3_12) (v := (.long (f i))) rfl) ?_
      refine go _ (T.setTop (mkF m 14 #[.val (.ref a1), .val (.ref a2), .val (.ref a1), .val (.int (Int32.ofNat i))] [(.ref a1), (.long (f i)), (.int (Int32.ofNat i)), (.ref a1)])) (fun t k => XS.aloadN X.here hx rfl (hb hby d3_13) rfl rfl k) ?_
      refine go _ (T.setTop (mkF m 15 #[.val (.ref a1), .val (.ref a2), .val (.ref a1), .val (.int (Int32.ofNat i))] [(.int (Int32.ofNat i)), (.ref a1), (.long (f i)), (.int (Int32.ofNat i)), (.ref a1)])) (fun t k => XS.iloadN X.here hx rfl (hb hby d3_14) rfl k) ?_
      refine go _ (T.setTop (mkF m 16 #[.val (.ref a1), .val (.ref a2), .val (.ref a1), .val (.int (Int32.ofNat i))] [(.long (g i)), (.long (f i)), (.int (Int32.ofNat i)), (.ref a1)])) (own_ldJ X hx hZ eh B1 (i := i) (own_nat (by omega)) (by omega) (g := (mkF m 15 #[.val (.ref a1), .val (.ref a2), .val (.ref a1), .val (.int (Int32.ofNat i))] [(.int (Int32.ofNat i)), (.ref a1), (.long (f i)), (.int (Int32.ofNat i)), (.ref a1)])) rfl rfl (hb hby d3_15) (v := (.long (g i))) (congrArg Value.long own_mixat)) ?_
      refine go _ (T.setTop (mkF m 17 #[.val (.ref a1), .val (.ref a2), .val (.ref a1), .val (.int (Int32.ofNat i))] [(.long ((f i) - (g i))), (.int (Int32.ofNat i)), (.ref a1)])) (fun t k => XS.lsub X.here hx rfl (hb hby d3_16) rfl k) ?_
      obtain ⟨T115, h115, X115, e115, W115, A115, st115⟩ := own_stJ X hx hZ eh B1 (i := i) (own_nat (by omega)) (by omega) (g := (mkF m 17 #[.val (.ref a1), .val (.ref a2), .val (.ref a1), .val (.int (Int32.ofNat i))] [(.long ((f i) - (g i))), (.int (Int32.ofNat i)), (.ref a1)])) rfl rfl (hb hby d3_17)
      have A116 := B2.other W115 n2
      have Z117 : n0 ≤ h115.size := by rw [W115.size]; exact Zs
      have N118 := Fr.snoc X115 Nf g0
      have K119 := Kp.wr W115 (Or.inl (by simp))
      refine go _ (T115.setTop (mkF m 18 #[.val (.ref a1), .val (.ref a2), .val (.ref a1), .val (.int (Int32.ofNat i))] [])) (st115) ?_
      refine go _ (T115.setTop (mkF m 21 #[.val (.ref a1), .val (.ref a2), .val (.ref a1), .val (.int ((Int32.ofNat i) + (1 : Int32)))] [])) (fun t k => XS.iinc X115.here hx rfl (hb hby d3_18) rfl (l' := #[.val (.ref a1), .val (.ref a2), .val (.ref a1), .val (.int ((Int32.ofNat i) + (1 : Int32)))]) rfl k) ?_
      refine go _ (T115.setTop (mkF m 2 #[.val (.ref a1), .val (.ref a2), .val (.ref a1), .val (.int ((Int32.ofNat i) + (1 : Int32)))] [])) (fun t k => XS.goto X115.here hx rfl (pc0 := 21) (pc' := 2) rfl (hb hby d3_21) (by decide) (by decide) k) ?_
      rw [own_inc]
      exact ih (i + 1) _ _ _ (by omega) X115 e115 Z117 N118 K119 (A115.congr (own_mixnext rfl)) A116
  exact loop 10 0 _ _ _ (by omega) X0 e0 Z0 N0 K0 A1 A2
theorem d4_0 : decode method_5_code 0 = .ok (.aload_n 0, 1) := by decide +kernel
theorem d4_1 : decode method_5_code 1 = .ok (.iconst 0, 1) := by decide +kernel
theorem d4_2 : decode method_5_code 2 = .ok (.laload, 1) := by decide +kernel
theorem d4_3 : decode method_5_code 3 = .ok (.aload_n 1, 1) := by decide +kernel
theorem d4_4 : decode method_5_code 4 = .ok (.iconst 0, 1) := by decide +kernel
theorem d4_5 : decode method_5_code 5 = .ok (.laload, 1) := by decide +kernel
theorem d4_6 : decode method_5_code 6 = .ok (.ladd, 1) := by decide +kernel
theorem d4_7 : decode method_5_code 7 = .ok (.aload_n 2, 1) := by decide +kernel
theorem d4_8 : decode method_5_code 8 = .ok (.iconst 0, 1) := by decide +kernel
theorem d4_9 : decode method_5_code 9 = .ok (.laload, 1) := by decide +kernel
theorem d4_10 : decode method_5_code 10 = .ok (.lcmp, 1) := by decide +kernel
theorem d4_11 : decode method_5_code 11 = .ok (.ifCond .ne 145, 3) := by decide +kernel
theorem d4_14 : decode method_5_code 14 = .ok (.aload_n 0, 1) := by decide +kernel
theorem d4_15 : decode method_5_code 15 = .ok (.iconst 1, 1) := by decide +kernel
theorem d4_16 : decode method_5_code 16 = .ok (.laload, 1) := by decide +kernel
theorem d4_17 : decode method_5_code 17 = .ok (.aload_n 1, 1) := by decide +kernel
theorem d4_18 : decode method_5_code 18 = .ok (.iconst 1, 1) := by decide +kernel
theorem d4_19 : decode method_5_code 19 = .ok (.laload, 1) := by decide +kernel
theorem d4_20 : decode method_5_code 20 = .ok (.ladd, 1) := by decide +kernel
theorem d4_21 : decode method_5_code 21 = .ok (.aload_n 2, 1) := by decide +kernel
theorem d4_22 : decode method_5_code 22 = .ok (.iconst 1, 1) := by decide +kernel
theorem d4_23 : decode method_5_code 23 = .ok (.laload, 1) := by decide +kernel
theorem d4_24 : decode method_5_code 24 = .ok (.lcmp, 1) := by decide +kernel
theorem d4_25 : decode method_5_code 25 = .ok (.ifCond .ne 131, 3) := by decide +kernel
theorem d4_28 : decode method_5_code 28 = .ok (.aload_n 0, 1) := by decide +kernel
theorem d4_29 : decode method_5_code 29 = .ok (.iconst 2, 1) := by decide +kernel
theorem d4_30 : decode method_5_code 30 = .ok (.laload, 1) := by decide +kernel
theorem d4_31 : decode method_5_code 31 = .ok (.aload_n 1, 1) := by decide +kernel
theorem d4_32 : decode method_5_code 32 = .ok (.iconst 2, 1) := by decide +kernel
theorem d4_33 : decode method_5_code 33 = .ok (.laload, 1) := by decide +kernel
theorem d4_34 : decode method_5_code 34 = .ok (.ladd, 1) := by decide +kernel
theorem d4_35 : decode method_5_code 35 = .ok (.aload_n 2, 1) := by decide +kernel
theorem d4_36 : decode method_5_code 36 = .ok (.iconst 2, 1) := by decide +kernel
theorem d4_37 : decode method_5_code 37 = .ok (.laload, 1) := by decide +kernel
theorem d4_38 : decode method_5_code 38 = .ok (.lcmp, 1) := by decide +kernel
theorem d4_39 : decode method_5_code 39 = .ok (.ifCond .ne 117, 3) := by decide +kernel
theorem d4_42 : decode method_5_code 42 = .ok (.aload_n 0, 1) := by decide +kernel
theorem d4_43 : decode method_5_code 43 = .ok (.iconst 3, 1) := by decide +kernel
theorem d4_44 : decode method_5_code 44 = .ok (.laload, 1) := by decide +kernel
theorem d4_45 : decode method_5_code 45 = .ok (.aload_n 1, 1) := by decide +kernel
theorem d4_46 : decode method_5_code 46 = .ok (.iconst 3, 1) := by decide +kernel
theorem d4_47 : decode method_5_code 47 = .ok (.laload, 1) := by decide +kernel
theorem d4_48 : decode method_5_code 48 = .ok (.ladd, 1) := by decide +kernel
theorem d4_49 : decode method_5_code 49 = .ok (.aload_n 2, 1) := by decide +kernel
theorem d4_50 : decode method_5_code 50 = .ok (.iconst 3, 1) := by decide +kernel
theorem d4_51 : decode method_5_code 51 = .ok (.laload, 1) := by decide +kernel
theorem d4_52 : decode method_5_code 52 = .ok (.lcmp, 1) := by decide +kernel
theorem d4_53 : decode method_5_code 53 = .ok (.ifCond .ne 103, 3) := by decide +kernel
theorem d4_56 : decode method_5_code 56 = .ok (.aload_n 0, 1) := by decide +kernel
theorem d4_57 : decode method_5_code 57 = .ok (.iconst 4, 1) := by decide +kernel
theorem d4_58 : decode method_5_code 58 = .ok (.laload, 1) := by decide +kernel
theorem d4_59 : decode method_5_code 59 = .ok (.aload_n 1, 1) := by decide +kernel
theorem d4_60 : decode method_5_code 60 = .ok (.iconst 4, 1) := by decide +kernel
theorem d4_61 : decode method_5_code 61 = .ok (.laload, 1) := by decide +kernel
theorem d4_62 : decode method_5_code 62 = .ok (.ladd, 1) := by decide +kernel
theorem d4_63 : decode method_5_code 63 = .ok (.aload_n 2, 1) := by decide +kernel
theorem d4_64 : decode method_5_code 64 = .ok (.iconst 4, 1) := by decide +kernel
theorem d4_65 : decode method_5_code 65 = .ok (.laload, 1) := by decide +kernel
theorem d4_66 : decode method_5_code 66 = .ok (.lcmp, 1) := by decide +kernel
theorem d4_67 : decode method_5_code 67 = .ok (.ifCond .ne 89, 3) := by decide +kernel
theorem d4_70 : decode method_5_code 70 = .ok (.aload_n 0, 1) := by decide +kernel
theorem d4_71 : decode method_5_code 71 = .ok (.iconst 5, 1) := by decide +kernel
theorem d4_72 : decode method_5_code 72 = .ok (.laload, 1) := by decide +kernel
theorem d4_73 : decode method_5_code 73 = .ok (.aload_n 1, 1) := by decide +kernel
theorem d4_74 : decode method_5_code 74 = .ok (.iconst 5, 1) := by decide +kernel
theorem d4_75 : decode method_5_code 75 = .ok (.laload, 1) := by decide +kernel
theorem d4_76 : decode method_5_code 76 = .ok (.ladd, 1) := by decide +kernel
theorem d4_77 : decode method_5_code 77 = .ok (.aload_n 2, 1) := by decide +kernel
theorem d4_78 : decode method_5_code 78 = .ok (.iconst 5, 1) := by decide +kernel
theorem d4_79 : decode method_5_code 79 = .ok (.laload, 1) := by decide +kernel
theorem d4_80 : decode method_5_code 80 = .ok (.lcmp, 1) := by decide +kernel
theorem d4_81 : decode method_5_code 81 = .ok (.ifCond .ne 75, 3) := by decide +kernel
theorem d4_84 : decode method_5_code 84 = .ok (.aload_n 0, 1) := by decide +kernel
theorem d4_85 : decode method_5_code 85 = .ok (.bipush 6, 2) := by decide +kernel
theorem d4_87 : decode method_5_code 87 = .ok (.laload, 1) := by decide +kernel
theorem d4_88 : decode method_5_code 88 = .ok (.aload_n 1, 1) := by decide +kernel
theorem d4_89 : decode method_5_code 89 = .ok (.bipush 6, 2) := by decide +kernel
theorem d4_91 : decode method_5_code 91 = .ok (.laload, 1) := by decide +kernel
theorem d4_92 : decode method_5_code 92 = .ok (.ladd, 1) := by decide +kernel
theorem d4_93 : decode method_5_code 93 = .ok (.aload_n 2, 1) := by decide +kernel
theorem d4_94 : decode method_5_code 94 = .ok (.bipush 6, 2) := by decide +kernel
theorem d4_96 : decode method_5_code 96 = .ok (.laload, 1) := by decide +kernel
theorem d4_97 : decode method_5_code 97 = .ok (.lcmp, 1) := by decide +kernel
theorem d4_98 : decode method_5_code 98 = .ok (.ifCond .ne 58, 3) := by decide +kernel
theorem d4_101 : decode method_5_code 101 = .ok (.aload_n 0, 1) := by decide +kernel
theorem d4_102 : decode method_5_code 102 = .ok (.bipush 7, 2) := by decide +kernel
theorem d4_104 : decode method_5_code 104 = .ok (.laload, 1) := by decide +kernel
theorem d4_105 : decode method_5_code 105 = .ok (.aload_n 1, 1) := by decide +kernel
theorem d4_106 : decode method_5_code 106 = .ok (.bipush 7, 2) := by decide +kernel
theorem d4_108 : decode method_5_code 108 = .ok (.laload, 1) := by decide +kernel
theorem d4_109 : decode method_5_code 109 = .ok (.ladd, 1) := by decide +kernel
theorem d4_110 : decode method_5_code 110 = .ok (.aload_n 2, 1) := by decide +kernel
theorem d4_111 : decode method_5_code 111 = .ok (.bipush 7, 2) := by decide +kernel
theorem d4_113 : decode method_5_code 113 = .ok (.laload, 1) := by decide +kernel
theorem d4_114 : decode method_5_code 114 = .ok (.lcmp, 1) := by decide +kernel
theorem d4_115 : decode method_5_code 115 = .ok (.ifCond .ne 41, 3) := by decide +kernel
theorem d4_118 : decode method_5_code 118 = .ok (.aload_n 0, 1) := by decide +kernel
theorem d4_119 : decode method_5_code 119 = .ok (.bipush 8, 2) := by decide +kernel
theorem d4_121 : decode method_5_code 121 = .ok (.laload, 1) := by decide +kernel
theorem d4_122 : decode method_5_code 122 = .ok (.aload_n 1, 1) := by decide +kernel
theorem d4_123 : decode method_5_code 123 = .ok (.bipush 8, 2) := by decide +kernel
theorem d4_125 : decode method_5_code 125 = .ok (.laload, 1) := by decide +kernel
theorem d4_126 : decode method_5_code 126 = .ok (.ladd, 1) := by decide +kernel
theorem d4_127 : decode method_5_code 127 = .ok (.aload_n 2, 1) := by decide +kernel
theorem d4_128 : decode method_5_code 128 = .ok (.bipush 8, 2) := by decide +kernel
theorem d4_130 : decode method_5_code 130 = .ok (.laload, 1) := by decide +kernel
theorem d4_131 : decode method_5_code 131 = .ok (.lcmp, 1) := by decide +kernel
theorem d4_132 : decode method_5_code 132 = .ok (.ifCond .ne 24, 3) := by decide +kernel
theorem d4_135 : decode method_5_code 135 = .ok (.aload_n 0, 1) := by decide +kernel
theorem d4_136 : decode method_5_code 136 = .ok (.bipush 9, 2) := by decide +kernel
theorem d4_138 : decode method_5_code 138 = .ok (.laload, 1) := by decide +kernel
theorem d4_139 : decode method_5_code 139 = .ok (.aload_n 1, 1) := by decide +kernel
theorem d4_140 : decode method_5_code 140 = .ok (.bipush 9, 2) := by decide +kernel
theorem d4_142 : decode method_5_code 142 = .ok (.laload, 1) := by decide +kernel
theorem d4_143 : decode method_5_code 143 = .ok (.ladd, 1) := by decide +kernel
theorem d4_144 : decode method_5_code 144 = .ok (.aload_n 2, 1) := by decide +kernel
theorem d4_145 : decode method_5_code 145 = .ok (.bipush 9, 2) := by decide +kernel
theorem d4_147 : decode method_5_code 147 = .ok (.laload, 1) := by decide +kernel
theorem d4_148 : decode method_5_code 148 = .ok (.lcmp, 1) := by decide +kernel
theorem d4_149 : decode method_5_code 149 = .ok (.ifCond .ne 7, 3) := by decide +kernel
theorem d4_152 : decode method_5_code 152 = .ok (.iconst 1, 1) := by decide +kernel
theorem d4_153 : decode method_5_code 153 = .ok (.goto 4, 3) := by decide +kernel
theorem d4_156 : decode method_5_code 156 = .ok (.iconst 0, 1) := by decide +kernel
theorem d4_157 : decode method_5_code 157 = .ok (.ireturn, 1) := by decide +kernel
theorem ef_rm4 (m : MethodId) (a1 : Addr) (a2 : Addr) (a3 : Addr) : entryFrame m #[(.ref a1), (.ref a2), (.ref a3)] 3 = mkF m 0 #[.val (.ref a1), .val (.ref a2), .val (.ref a3)] [] := by first | (simp [entryFrame, mkF, argsToLocals, Value.category]; done) | rfl
def Q_rm4 (Z : State) (a1 : Addr) (a2 : Addr) (a3 : Addr) (u : Nat → Int64) (g : Nat → Int64) (f : Nat → Int64) (h0 : Heap) (n0 : Nat) (v : Option Value) (h : Heap) (L : List Loc) : Prop := v = some (.int (1 : Int32)) ∧ Fr n0 L ∧ h = h0
set_option maxRecDepth 65536 in
set_option maxHeartbeats 40000000 in
theorem rm4 (l : Launch) (Z : State) (a0 : Array Value) (hw : ∀ d ∈ tables_1, d.before a0 Z = true) (ws : List Jvm.Cond) (a1 : Addr) (a2 : Addr) (a3 : Addr) (u : Nat → Int64) (g : Nat → Int64) (f : Nat → Int64) (h0 : Heap) (n0 : Nat) (Z0 : n0 ≤ h0.size) (A1 : AF Z h0 a1 .long 10 (fun j => .long (u j))) (A2 : AF Z h0 a2 .long 10 (fun j => .long (g j))) (A3 : AF Z h0 a3 .long 10 (fun j => .long (f j))) (hq : ∀ j, j < 10 → u j + g j = f j) :
    MetFree l (⟨"com/example/withhold/withhold/crypto/Field25519SubtractPinLaw", "backToF", "([J[J[J)Z"⟩ : MethodName) (head1 (Jvm.Cond.code (⟨"com/example/withhold/withhold/crypto/Field25519SubtractPinLaw", "backToF", "([J[J[J)Z"⟩ : MethodName) method_5_code 3 (some .boolean) :: ws) ({ frames := 0, cells := 0, slots := 0, locals := 0 } : Room)) (fun a U => a = #[(.ref a1), (.ref a2), (.ref a3)] ∧ Z.Warmed39 U.vm ∧ U.heap = h0) (fun _ _ _ _ _ => True) (fun _ U o U' => ∃ v L, o = .returned v ∧ Q_rm4 Z a1 a2 a3 u g f h0 n0 v U'.heap L ∧ FrameEnd U o U' L ({ frames := 0, cells := 0, slots := 0, locals := 0 } : Room).cells ({ frames := 0, cells := 0, slots := 0, locals := 0 } : Room).slots) := by
  refine own_body (Q := Q_rm4 Z a1 a2 a3 u g f h0 n0) (plainFor_of_name pn_7) ?_
  intro p e s m below meth c s₁ K go fin X0 hx hby hml hown hnm hret hZ e0
  have hown : s.vm.findClass "com/example/withhold/withhold/crypto/Field25519SubtractPinLaw" = some m.cls := hown
  have N0 := Fr.nil n0
  refine go _ (s₁.setTop (mkF m 0 #[.val (.ref a1), .val (.ref a2), .val (.ref a3)] [])) (fun t k => castTop (ef_rm4 m a1 a2 a3) k) ?_
  refine go _ (s₁.setTop (mkF m 1 #[.val (.ref a1), .val (.ref a2), .val (.ref a3)] [(.ref a1)])) (fun t k => XS.aloadN X0.here hx rfl (hb hby d4_0) rfl rfl k) ?_
  refine go _ (s₁.setTop (mkF m 2 #[.val (.ref a1), .val (.ref a2), .val (.ref a3)] [(.int (0 : Int32)), (.ref a1)])) (fun t k => XS.iconst X0.here hx rfl (hb hby d4_1) k) ?_
  refine go _ (s₁.setTop (mkF m 3 #[.val (.ref a1), .val (.ref a2), .val (.ref a3)] [(.long (u 0))])) (own_ldJ X0 hx hZ e0 A1 (i := 0) (by decide) (by decide) (g := (mkF m 2 #[.val (.ref a1), .val (.ref a2), .val (.ref a3)] [(.int (0 : Int32)), (.ref a1)])) rfl rfl (hb hby d4_2) (v := (.long (u 0))) rfl) ?_
  refine go _ (s₁.setTop (mkF m 4 #[.val (.ref a1), .val (.ref a2), .val (.ref a3)] [(.ref a2), (.long (u 0))])) (fun t k => XS.aloadN X0.here hx rfl (hb hby d4_3) rfl rfl k) ?_
  refine go _ (s₁.setTop (mkF m 5 #[.val (.ref a1), .val (.ref a2), .val (.ref a3)] [(.int (0 : Int32)), (.ref a2), (.long (u 0))])) (fun t k => XS.iconst X0.here hx rfl (hb hby d4_4) k) ?_
  refine go _ (s₁.setTop (mkF m 6 #[.val (.ref a1), .val (.ref a2), .val (.ref a3)] [(.long (g 0)), (.long (u 0))])) (own_ldJ X0 hx hZ e0 A2 (i := 0) (by decide) (by decide) (g := (mkF m 5 #[.val (.ref a1), .val (.ref a2), .val (.ref a3)] [(.int (0 : Int32)), (.ref a2), (.long (u 0))])) rfl rfl (hb hby d4_5) (v := (.long (g 0))) rfl) ?_
  refine go _ (s₁.setTop (mkF m 7 #[.val (.ref a1), .val (.ref a2), .val (.ref a3)] [(.long ((u 0) + (g 0)))])) (fun t k => XS.ladd X0.here hx rfl (hb hby d4_6) rfl k) ?_
  refine go _ (s₁.setTop (mkF m 8 #[.val (.ref a1), .val (.ref a2), .val (.ref a3)] [(.ref a3), (.long ((u 0) + (g 0)))])) (fun t k => XS.aloadN X0.here hx rfl (hb hby d4_7) rfl rfl k) ?_
  refine go _ (s₁.setTop (mkF m 9 #[.val (.ref a1), .val (.ref a2), .val (.ref a3)] [(.int (0 : Int32)), (.ref a3), (.long ((u 0) + (g 0)))])) (fun t k => XS.iconst X0.here hx rfl (hb hby d4_8) k) ?_
  refine go _ (s₁.setTop (mkF m 10 #[.val (.ref a1), .val (.ref a2), .val (.ref a3)] [(.long (f 0)), (.long ((u 0) + (g 0)))])) (own_ldJ X0 hx hZ e0 A3 (i := 0) (by decide) (by decide) (g := (mkF m 9 #[.val (.ref a1), .val (.ref a2), .val (.ref a3)] [(.int (0 : Int32)), (.ref a3), (.long ((u 0) + (g 0)))])) rfl rfl (hb hby d4_9) (v := (.long (f 0))) rfl) ?_
  refine go _ (s₁.setTop (mkF m 11 #[.val (.ref a1), .val (.ref a2), .val (.ref a3)] [(.int (lcmpW ((u 0) + (g 0)) (f 0)))])) (fun t k => XS.lcmp X0.here hx rfl (hb hby d4_10) rfl k) ?_
  have hc120 : (((u 0) + (g 0)) = (f 0)) := hq 0 (by decide)
  refine go _ (s₁.setTop (mkF m 14 #[.val (.ref a1), .val (.ref a2), .val (.ref a3)] [])) (fun t k => XS.ifNo X0.here hx rfl (hb hby d4_11) rfl ((if0 _ _).trans (teq ((lw_eq ((u 0) + (g 0)) (f 0)).mpr hc120)).2) k) ?_
  refine go _ (s₁.setTop (mkF m 15 #[.val (.ref a1), .val (.ref a2), .val (.ref a3)] [(.ref a1)])) (fun t k => XS.aloadN X0.here hx rfl (hb hby d4_14) rfl rfl k) ?_
  refine go _ (s₁.setTop (mkF m 16 #[.val (.ref a1), .val (.ref a2), .val (.ref a3)] [(.int (1 : Int32)), (.ref a1)])) (fun t k => XS.iconst X0.here hx rfl (hb hby d4_15) k) ?_
  refine go _ (s₁.setTop (mkF m 17 #[.val (.ref a1), .val (.ref a2), .val (.ref a3)] [(.long (u 1))])) (own_ldJ X0 hx hZ e0 A1 (i := 1) (by decide) (by decide) (g := (mkF m 16 #[.val (.ref a1), .val (.ref a2), .val (.ref a3)] [(.int (1 : Int32)), (.ref a1)])) rfl rfl (hb hby d4_16) (v := (.long (u 1))) rfl) ?_
  refine go _ (s₁.setTop (mkF m 18 #[.val (.ref a1), .val (.ref a2), .val (.ref a3)] [(.ref a2), (.long (u 1))])) (fun t k => XS.aloadN X0.here hx rfl (hb hby d4_17) rfl rfl k) ?_
  refine go _ (s₁.setTop (mkF m 19 #[.val (.ref a1), .val (.ref a2), .val (.ref a3)] [(.int (1 : Int32)), (.ref a2), (.long (u 1))])) (fun t k => XS.iconst X0.here hx rfl (hb hby d4_18) k) ?_
  refine go _ (s₁.setTop (mkF m 20 #[.val (.ref a1), .val (.ref a2), .val (.ref a3)] [(.long (g 1)), (.long (u 1))])) (own_ldJ X0 hx hZ e0 A2 (i := 1) (by decide) (by decide) (g := (mkF m 19 #[.val (.ref a1), .val (.ref a2), .val (.ref a3)] [(.int (1 : Int32)), (.ref a2), (.long (u 1))])) rfl rfl (hb hby d4_19) (v := (.long (g 1))) rfl) ?_
  refine go _ (s₁.setTop (mkF m 21 #[.val (.ref a1), .val (.ref a2), .val (.ref a3)] [(.long ((u 1) + (g 1)))])) (fun t k => XS.ladd X0.here hx rfl (hb hby d4_20) rfl k) ?_
  refine go _ (s₁.setTop (mkF m 22 #[.val (.ref a1), .val (.ref a2), .val (.ref a3)] [(.ref a3), (.long ((u 1) + (g 1)))])) (fun t k => XS.aloadN X0.here hx rfl (hb hby d4_21) rfl rfl k) ?_
  refine go _ (s₁.setTop (mkF m 23 #[.val (.ref a1), .val (.ref a2), .val (.ref a3)] [(.int (1 : Int32)), (.ref a3), (.long ((u 1) + (g 1)))])) (fun t k => XS.iconst X0.here hx rfl (hb hby d4_22) k) ?_
  refine go _ (s₁.setTop (mkF m 24 #[.val (.ref a1), .val (.ref a2), .val (.ref a3)] [(.long (f 1)), (.long ((u 1) + (g 1)))])) (own_ldJ X0 hx hZ e0 A3 (i := 1) (by decide) (by decide) (g := (mkF m 23 #[.val (.ref a1), .val (.ref a2), .val (.ref a3)] [(.int (1 : Int32)), (.ref a3), (.long ((u 1) + (g 1)))])) rfl rfl (hb hby d4_23) (v := (.long (f 1))) rfl) ?_
  refine go _ (s₁.setTop (mkF m 25 #[.val (.ref a1), .val (.ref a2), .val (.ref a3)] [(.int (lcmpW ((u 1) + (g 1)) (f 1)))])) (fun t k => XS.lcmp X0.here hx rfl (hb hby d4_24) rfl k) ?_
  have hc121 : (((u 1) + (g 1)) = (f 1)) := hq 1 (by decide)
  refine go _ (s₁.setTop (mkF m 28 #[.val (.ref a1), .val (.ref a2), .val (.ref a3)] [])) (fun t k => XS.ifNo X0.here hx rfl (hb hby d4_25) rfl ((if0 _ _).trans (teq ((lw_eq ((u 1) + (g 1)) (f 1)).mpr hc121)).2) k) ?_
  refine go _ (s₁.setTop (mkF m 29 #[.val (.ref a1), .val (.ref a2), .val (.ref a3)] [(.ref a1)])) (fun t k => XS.aloadN X0.here hx rfl (hb hby d4_28) rfl rfl k) ?_
  refine go _ (s₁.setTop (mkF m 30 #[.val (.ref a1), .val (.ref a2), .val (.ref a3)] [(.int (2 : Int32)), (.ref a1)])) (fun t k => XS.iconst X0.here hx rfl (hb hby d4_29) k) ?_
  refine go _ (s₁.setTop (mkF m 31 #[.val (.ref a1), .val (.ref a2), .val (.ref a3)] [(.long (u 2))])) (own_ldJ X0 hx hZ e0 A1 (i := 2) (by decide) (by decide) (g := (mkF m 30 #[.val (.ref a1), .val (.ref a2), .val (.ref a3)] [(.int (2 : Int32)), (.ref a1)])) rfl rfl (hb hby d4_30) (v := (.long (u 2))) rfl) ?_
  refine go _ (s₁.setTop (mkF m 32 #[.val (.ref a1), .val (.ref a2), .val (.ref a3)] [(.ref a2), (.long (u 2))])) (fun t k => XS.aloadN X0.here hx rfl (hb hby d4_31) rfl rfl k) ?_
  refine go _ (s₁.setTop (mkF m 33 #[.val (.ref a1), .val (.ref a2), .val (.ref a3)] [(.int (2 : Int32)), (.ref a2), (.long (u 2))])) (fun t k => XS.iconst X0.here hx rfl (hb hby d4_32) k) ?_
  refine go _ (s₁.setTop (mkF m 34 #[.val (.ref a1), .val (.ref a2), .val (.ref a3)] [(.long (g 2)), (.long (u 2))])) (own_ldJ X0 hx hZ e0 A2 (i := 2) (by decide) (by decide) (g := (mkF m 33 #[.val (.ref a1), .val (.ref a2), .val (.ref a3)] [(.int (2 : Int32)), (.ref a2), (.long (u 2))])) rfl rfl (hb hby d4_33) (v := (.long (g 2))) rfl) ?_
  refine go _ (s₁.setTop (mkF m 35 #[.val (.ref a1), .val (.ref a2), .val (.ref a3)] [(.long ((u 2) + (g 2)))])) (fun t k => XS.ladd X0.here hx rfl (hb hby d4_34) rfl k) ?_
  refine go _ (s₁.setTop (mkF m 36 #[.val (.ref a1), .val (.ref a2), .val (.ref a3)] [(.ref a3), (.long ((u 2) + (g 2)))])) (fun t k => XS.aloadN X0.here hx rfl (hb hby d4_35) rfl rfl k) ?_
  refine go _ (s₁.setTop (mkF m 37 #[.val (.ref a1), .val (.ref a2), .val (.ref a3)] [(.int (2 : Int32)), (.ref a3), (.long ((u 2) + (g 2)))])) (fun t k => XS.iconst X0.here hx rfl (hb hby d4_36) k) ?_
  refine go _ (s₁.setTop (mkF m 38 #[.val (.ref a1), .val (.ref a2), .val (.ref a3)] [(.long (f 2)), (.long ((u 2) + (g 2)))])) (own_ldJ X0 hx hZ e0 A3 (i := 2) (by decide) (by decide) (g := (mkF m 37 #[.val (.ref a1), .val (.ref a2), .val (.ref a3)] [(.int (2 : Int32)), (.ref a3), (.long ((u 2) + (g 2)))])) rfl rfl (hb hby d4_37) (v := (.long (f 2))) rfl) ?_
  refine go _ (s₁.setTop (mkF m 39 #[.val (.ref a1), .val (.ref a2), .val (.ref a3)] [(.int (lcmpW ((u 2) + (g 2)) (f 2)))])) (fun t k => XS.lcmp X0.here hx rfl (hb hby d4_38) rfl k) ?_
  have hc122 : (((u 2) + (g 2)) = (f 2)) := hq 2 (by decide)
  refine go _ (s₁.setTop (mkF m 42 #[.val (.ref a1), .val (.ref a2), .val (.ref a3)] [])) (fun t k => XS.ifNo X0.here hx rfl (hb hby d4_39) rfl ((if0 _ _).trans (teq ((lw_eq ((u 2) + (g 2)) (f 2)).mpr hc122)).2) k) ?_
  refine go _ (s₁.setTop (mkF m 43 #[.val (.ref a1), .val (.ref a2), .val (.ref a3)] [(.ref a1)])) (fun t k => XS.aloadN X0.here hx rfl (hb hby d4_42) rfl rfl k) ?_
  refine go _ (s₁.setTop (mkF m 44 #[.val (.ref a1), .val (.ref a2), .val (.ref a3)] [(.int (3 : Int32)), (.ref a1)])) (fun t k => XS.iconst X0.here hx rfl (hb hby d4_43) k) ?_
  refine go _ (s₁.setTop (mkF m 45 #[.val (.ref a1), .val (.ref a2), .val (.ref a3)] [(.long (u 3))])) (own_ldJ X0 hx hZ e0 A1 (i := 3) (by decide) (by decide) (g := (mkF m 44 #[.val (.ref a1), .val (.ref a2), .val (.ref a3)] [(.int (3 : Int32)), (.ref a1)])) rfl rfl (hb hby d4_44) (v := (.long (u 3))) rfl) ?_
  refine go _ (s₁.setTop (mkF m 46 #[.val (.ref a1), .val (.ref a2), .val (.ref a3)] [(.ref a2), (.long (u 3))])) (fun t k => XS.aloadN X0.here hx rfl (hb hby d4_45) rfl rfl k) ?_
  refine go _ (s₁.setTop (mkF m 47 #[.val (.ref a1), .val (.ref a2), .val (.ref a3)] [(.int (3 : Int32)), (.ref a2), (.long (u 3))])) (fun t k => XS.iconst X0.here hx rfl (hb hby d4_46) k) ?_
  refine go _ (s₁.setTop (mkF m 48 #[.val (.ref a1), .val (.ref a2), .val (.ref a3)] [(.long (g 3)), (.long (u 3))])) (own_ldJ X0 hx hZ e0 A2 (i := 3) (by decide) (by decide) (g := (mkF m 47 #[.val (.ref a1), .val (.ref a2), .val (.ref a3)] [(.int (3 : Int32)), (.ref a2), (.long (u 3))])) rfl rfl (hb hby d4_47) (v := (.long (g 3))) rfl) ?_
  refine go _ (s₁.setTop (mkF m 49 #[.val (.ref a1), .val (.ref a2), .val (.ref a3)] [(.long ((u 3) + (g 3)))])) (fun t k => XS.ladd X0.here hx rfl (hb hby d4_48) rfl k) ?_
  refine go _ (s₁.setTop (mkF m 50 #[.val (.ref a1), .val (.ref a2), .val (.ref a3)] [(.ref a3), (.long ((u 3) + (g 3)))])) (fun t k => XS.aloadN X0.here hx rfl (hb hby d4_49) rfl rfl k) ?_
  refine go _ (s₁.setTop (mkF m 51 #[.val (.ref a1), .val (.ref a2), .val (.ref a3)] [(.int (3 : Int32)), (.ref a3), (.long ((u 3) + (g 3)))])) (fun t k => XS.iconst X0.here hx rfl (hb hby d4_50) k) ?_
  refine go _ (s₁.setTop (mkF m 52 #[.val (.ref a1), .val (.ref a2), .val (.ref a3)] [(.long (f 3)), (.long ((u 3) + (g 3)))])) (own_ldJ X0 hx hZ e0 A3 (i := 3) (by decide) (by decide) (g := (mkF m 51 #[.val (.ref a1), .val (.ref a2), .val (.ref a3)] [(.int (3 : Int32)), (.ref a3), (.long ((u 3) + (g 3)))])) rfl rfl (hb hby d4_51) (v := (.long (f 3))) rfl) ?_
  refine go _ (s₁.setTop (mkF m 53 #[.val (.ref a1), .val (.ref a2), .val (.ref a3)] [(.int (lcmpW ((u 3) + (g 3)) (f 3)))])) (fun t k => XS.lcmp X0.here hx rfl (hb hby d4_52) rfl k) ?_
  have hc123 : (((u 3) + (g 3)) = (f 3)) := hq 3 (by decide)
  refine go _ (s₁.setTop (mkF m 56 #[.val (.ref a1), .val (.ref a2), .val (.ref a3)] [])) (fun t k => XS.ifNo X0.here hx rfl (hb hby d4_53) rfl ((if0 _ _).trans (teq ((lw_eq ((u 3) + (g 3)) (f 3)).mpr hc123)).2) k) ?_
  refine go _ (s₁.setTop (mkF m 57 #[.val (.ref a1), .val (.ref a2), .val (.ref a3)] [(.ref a1)])) (fun t k => XS.aloadN X0.here hx rfl (hb hby d4_56) rfl rfl k) ?_
  refine go _ (s₁.setTop (mkF m 58 #[.val (.ref a1), .val (.ref a2), .val (.ref a3)] [(.int (4 : Int32)), (.ref a1)])) (fun t k => XS.iconst X0.here hx rfl (hb hby d4_57) k) ?_
  refine go _ (s₁.setTop (mkF m 59 #[.val (.ref a1), .val (.ref a2), .val (.ref a3)] [(.long (u 4))])) (own_ldJ X0 hx hZ e0 A1 (i := 4) (by decide) (by decide) (g := (mkF m 58 #[.val (.ref a1), .val (.ref a2), .val (.ref a3)] [(.int (4 : Int32)), (.ref a1)])) rfl rfl (hb hby d4_58) (v := (.long (u 4))) rfl) ?_
  refine go _ (s₁.setTop (mkF m 60 #[.val (.ref a1), .val (.ref a2), .val (.ref a3)] [(.ref a2), (.long (u 4))])) (fun t k => XS.aloadN X0.here hx rfl (hb hby d4_59) rfl rfl k) ?_
  refine go _ (s₁.setTop (mkF m 61 #[.val (.ref a1), .val (.ref a2), .val (.ref a3)] [(.int (4 : Int32)), (.ref a2), (.long (u 4))])) (fun t k => XS.iconst X0.here hx rfl (hb hby d4_60) k) ?_
  refine go _ (s₁.setTop (mkF m 62 #[.val (.ref a1), .val (.ref a2), .val (.ref a3)] [(.long (g 4)), (.long (u 4))])) (own_ldJ X0 hx hZ e0 A2 (i := 4) (by decide) (by decide) (g := (mkF m 61 #[.val (.ref a1), .val (.ref a2), .val (.ref a3)] [(.int (4 : Int32)), (.ref a2), (.long (u 4))])) rfl rfl (hb hby d4_61) (v := (.long (g 4))) rfl) ?_
  refine go _ (s₁.setTop (mkF m 63 #[.val (.ref a1), .val (.ref a2), .val (.ref a3)] [(.long ((u 4) + (g 4)))])) (fun t k => XS.ladd X0.here hx rfl (hb hby d4_62) rfl k) ?_
  refine go _ (s₁.setTop (mkF m 64 #[.val (.ref a1), .val (.ref a2), .val (.ref a3)] [(.ref a3), (.long ((u 4) + (g 4)))])) (fun t k => XS.aloadN X0.here hx rfl (hb hby d4_63) rfl rfl k) ?_
  refine go _ (s₁.setTop (mkF m 65 #[.val (.ref a1), .val (.ref a2), .val (.ref a3)] [(.int (4 : Int32)), (.ref a3), (.long ((u 4) + (g 4)))])) (fun t k => XS.iconst X0.here hx rfl (hb hby d4_64) k) ?_
  refine go _ (s₁.setTop (mkF m 66 #[.val (.ref a1), .val (.ref a2), .val (.ref a3)] [(.long (f 4)), (.long ((u 4) + (g 4)))])) (own_ldJ X0 hx hZ e0 A3 (i := 4) (by decide) (by decide) (g := (mkF m 65 #[.val (.ref a1), .val (.ref a2), .val (.ref a3)] [(.int (4 : Int32)), (.ref a3), (.long ((u 4) + (g 4)))])) rfl rfl (hb hby d4_65) (v := (.long (f 4))) rfl) ?_
  refine go _ (s₁.setTop (mkF m 67 #[.val (.ref a1), .val (.ref a2), .val (.ref a3)] [(.int (lcmpW ((u 4) + (g 4)) (f 4)))])) (fun t k => XS.lcmp X0.here hx rfl (hb hby d4_66) rfl k) ?_
  have hc124 : (((u 4) + (g 4)) = (f 4)) := hq 4 (by decide)
  refine go _ (s₁.setTop (mkF m 70 #[.val (.ref a1), .val (.ref a2), .val (.ref a3)] [])) (fun t k => XS.ifNo X0.here hx rfl (hb hby d4_67) rfl ((if0 _ _).trans (teq ((lw_eq ((u 4) + (g 4)) (f 4)).mpr hc124)).2) k) ?_
  refine go _ (s₁.setTop (mkF m 71 #[.val (.ref a1), .val (.ref a2), .val (.ref a3)] [(.ref a1)])) (fun t k => XS.aloadN X0.here hx rfl (hb hby d4_70) rfl rfl k) ?_
  refine go _ (s₁.setTop (mkF m 72 #[.val (.ref a1), .val (.ref a2), .val (.ref a3)] [(.int (5 : Int32)), (.ref a1)])) (fun t k => XS.iconst X0.here hx rfl (hb hby d4_71) k) ?_
  refine go _ (s₁.setTop (mkF m 73 #[.val (.ref a1), .val (.ref a2), .val (.ref a3)] [(.long (u 5))])) (own_ldJ X0 hx hZ e0 A1 (i := 5) (by decide) (by decide) (g := (mkF m 72 #[.val (.ref a1), .val (.ref a2), .val (.ref a3)] [(.int (5 : Int32)), (.ref a1)])) rfl rfl (hb hby d4_72) (v := (.long (u 5))) rfl) ?_
  refine go _ (s₁.setTop (mkF m 74 #[.val (.ref a1), .val (.ref a2), .val (.ref a3)] [(.ref a2), (.long (u 5))])) (fun t k => XS.aloadN X0.here hx rfl (hb hby d4_73) rfl rfl k) ?_
  refine go _ (s₁.setTop (mkF m 75 #[.val (.ref a1), .val (.ref a2), .val (.ref a3)] [(.int (5 : Int32)), (.ref a2), (.long (u 5))])) (fun t k => XS.iconst X0.here hx rfl (hb hby d4_74) k) ?_
  refine go _ (s₁.setTop (mkF m 76 #[.val (.ref a1), .val (.ref a2), .val (.ref a3)] [(.long (g 5)), (.long (u 5))])) (own_ldJ X0 hx hZ e0 A2 (i := 5) (by decide) (by decide) (g := (mkF m 75 #[.val (.ref a1), .val (.ref a2), .val (.ref a3)] [(.int (5 : Int32)), (.ref a2), (.long (u 5))])) rfl rfl (hb hby d4_75) (v := (.long (g 5))) rfl) ?_
  refine go _ (s₁.setTop (mkF m 77 #[.val (.ref a1), .val (.ref a2), .val (.ref a3)] [(.long ((u 5) + (g 5)))])) (fun t k => XS.ladd X0.here hx rfl (hb hby d4_76) rfl k) ?_
  refine go _ (s₁.setTop (mkF m 78 #[.val (.ref a1), .val (.ref a2), .val (.ref a3)] [(.ref a3), (.long ((u 5) + (g 5)))])) (fun t k => XS.aloadN X0.here hx rfl (hb hby d4_77) rfl rfl k) ?_
  refine go _ (s₁.setTop (mkF m 79 #[.val (.ref a1), .val (.ref a2), .val (.ref a3)] [(.int (5 : Int32)), (.ref a3), (.long ((u 5) + (g 5)))])) (fun t k => XS.iconst X0.here hx rfl (hb hby d4_78) k) ?_
  refine go _ (s₁.setTop (mkF m 80 #[.val (.ref a1), .val (.ref a2), .val (.ref a3)] [(.long (f 5)), (.long ((u 5) + (g 5)))])) (own_ldJ X0 hx hZ e0 A3 (i := 5) (by decide) (by decide) (g := (mkF m 79 #[.val (.ref a1), .val (.ref a2), .val (.ref a3)] [(.int (5 : Int32)), (.ref a3), (.long ((u 5) + (g 5)))])) rfl rfl (hb hby d4_79) (v := (.long (f 5))) rfl) ?_
  refine go _ (s₁.setTop (mkF m 81 #[.val (.ref a1), .val (.ref a2), .val (.ref a3)] [(.int (lcmpW ((u 5) + (g 5)) (f 5)))])) (fun t k => XS.lcmp X0.here hx rfl (hb hby d4_80) rfl k) ?_
  have hc125 : (((u 5) + (g 5)) = (f 5)) := hq 5 (by decide)
  refine go _ (s₁.setTop (mkF m 84 #[.val (.ref a1), .val (.ref a2), .val (.ref a3)] [])) (fun t k => XS.ifNo X0.here hx rfl (hb hby d4_81) rfl ((if0 _ _).trans (teq ((lw_eq ((u 5) + (g 5)) (f 5)).mpr hc125)).2) k) ?_
  refine go _ (s₁.setTop (mkF m 85 #[.val (.ref a1), .val (.ref a2), .val (.ref a3)] [(.ref a1)])) (fun t k => XS.aloadN X0.here hx rfl (hb hby d4_84) rfl rfl k) ?_
  refine go _ (s₁.setTop (mkF m 87 #[.val (.ref a1), .val (.ref a2), .val (.ref a3)] [(.int (6 : Int32)), (.ref a1)])) (fun t k => XS.bipush X0.here hx rfl (hb hby d4_85) k) ?_
  refine go _ (s₁.setTop (mkF m 88 #[.val (.ref a1), .val (.ref a2), .val (.ref a3)] [(.long (u 6))])) (own_ldJ X0 hx hZ e0 A1 (i := 6) (by decide) (by decide) (g := (mkF m 87 #[.val (.ref a1), .val (.ref a2), .val (.ref a3)] [(.int (6 : Int32)), (.ref a1)])) rfl rfl (hb hby d4_87) (v := (.long (u 6))) rfl) ?_
  refine go _ (s₁.setTop (mkF m 89 #[.val (.ref a1), .val (.ref a2), .val (.ref a3)] [(.ref a2), (.long (u 6))])) (fun t k => XS.aloadN X0.here hx rfl (hb hby d4_88) rfl rfl k) ?_
  refine go _ (s₁.setTop (mkF m 91 #[.val (.ref a1), .val (.ref a2), .val (.ref a3)] [(.int (6 : Int32)), (.ref a2), (.long (u 6))])) (fun t k => XS.bipush X0.here hx rfl (hb hby d4_89) k) ?_
  refine go _ (s₁.setTop (mkF m 92 #[.val (.ref a1), .val (.ref a2), .val (.ref a3)] [(.long (g 6)), (.long (u 6))])) (own_ldJ X0 hx hZ e0 A2 (i := 6) (by decide) (by decide) (g := (mkF m 91 #[.val (.ref a1), .val (.ref a2), .val (.ref a3)] [(.int (6 : Int32)), (.ref a2), (.long (u 6))])) rfl rfl (hb hby d4_91) (v := (.long (g 6))) rfl) ?_
  refine go _ (s₁.setTop (mkF m 93 #[.val (.ref a1), .val (.ref a2), .val (.ref a3)] [(.long ((u 6) + (g 6)))])) (fun t k => XS.ladd X0.here hx rfl (hb hby d4_92) rfl k) ?_
  refine go _ (s₁.setTop (mkF m 94 #[.val (.ref a1), .val (.ref a2), .val (.ref a3)] [(.ref a3), (.long ((u 6) + (g 6)))])) (fun t k => XS.aloadN X0.here hx rfl (hb hby d4_93) rfl rfl k) ?_
  refine go _ (s₁.setTop (mkF m 96 #[.val (.ref a1), .val (.ref a2), .val (.ref a3)] [(.int (6 : Int32)), (.ref a3), (.long ((u 6) + (g 6)))])) (fun t k => XS.bipush X0.here hx rfl (hb hby d4_94) k) ?_
  refine go _ (s₁.setTop (mkF m 97 #[.val (.ref a1), .val (.ref a2), .val (.ref a3)] [(.long (f 6)), (.long ((u 6) + (g 6)))])) (own_ldJ X0 hx hZ e0 A3 (i := 6) (by decide) (by decide) (g := (mkF m 96 #[.val (.ref a1), .val (.ref a2), .val (.ref a3)] [(.int (6 : Int32)), (.ref a3), (.long ((u 6) + (g 6)))])) rfl rfl (hb hby d4_96) (v := (.long (f 6))) rfl) ?_
  refine go _ (s₁.setTop (mkF m 98 #[.val (.ref a1), .val (.ref a2), .val (.ref a3)] [(.int (lcmpW ((u 6) + (g 6)) (f 6)))])) (fun t k => XS.lcmp X0.here hx rfl (hb hby d4_97) rfl k) ?_
  have hc126 : (((u 6) + (g 6)) = (f 6)) := hq 6 (by decide)
  refine go _ (s₁.setTop (mkF m 101 #[.val (.ref a1), .val (.ref a2), .val (.ref a3)] [])) (fun t k => XS.ifNo X0.here hx rfl (hb hby d4_98) rfl ((if0 _ _).trans (teq ((lw_eq ((u 6) + (g 6)) (f 6)).mpr hc126)).2) k) ?_
  refine go _ (s₁.setTop (mkF m 102 #[.val (.ref a1), .val (.ref a2), .val (.ref a3)] [(.ref a1)])) (fun t k => XS.aloadN X0.here hx rfl (hb hby d4_101) rfl rfl k) ?_
  refine go _ (s₁.setTop (mkF m 104 #[.val (.ref a1), .val (.ref a2), .val (.ref a3)] [(.int (7 : Int32)), (.ref a1)])) (fun t k => XS.bipush X0.here hx rfl (hb hby d4_102) k) ?_
  refine go _ (s₁.setTop (mkF m 105 #[.val (.ref a1), .val (.ref a2), .val (.ref a3)] [(.long (u 7))])) (own_ldJ X0 hx hZ e0 A1 (i := 7) (by decide) (by decide) (g := (mkF m 104 #[.val (.ref a1), .val (.ref a2), .val (.ref a3)] [(.int (7 : Int32)), (.ref a1)])) rfl rfl (hb hby d4_104) (v := (.long (u 7))) rfl) ?_
  refine go _ (s₁.setTop (mkF m 106 #[.val (.ref a1), .val (.ref a2), .val (.ref a3)] [(.ref a2), (.long (u 7))])) (fun t k => XS.aloadN X0.here hx rfl (hb hby d4_105) rfl rfl k) ?_
  refine go _ (s₁.setTop (mkF m 108 #[.val (.ref a1), .val (.ref a2), .val (.ref a3)] [(.int (7 : Int32)), (.ref a2), (.long (u 7))])) (fun t k => XS.bipush X0.here hx rfl (hb hby d4_106) k) ?_
  refine go _ (s₁.setTop (mkF m 109 #[.val (.ref a1), .val (.ref a2), .val (.ref a3)] [(.long (g 7)), (.long (u 7))])) (own_ldJ X0 hx hZ e0 A2 (i := 7) (by decide) (by decide) (g := (mkF m 108 #[.val (.ref a1), .val (.ref a2), .val (.ref a3)] [(.int (7 : Int32)), (.ref a2), (.long (u 7))])) rfl rfl (hb hby d4_108) (v := (.long (g 7))) rfl) ?_
  refine go _ (s₁.setTop (mkF m 110 #[.val (.ref a1), .val (.ref a2), .val (.ref a3)] [(.long ((u 7) + (g 7)))])) (fun t k => XS.ladd X0.here hx rfl (hb hby d4_109) rfl k) ?_
  refine go _ (s₁.setTop (mkF m 111 #[.val (.ref a1), .val (.ref a2), .val (.ref a3)] [(.ref a3), (.long ((u 7) + (g 7)))])) (fun t k => XS.aloadN X0.here hx rfl (hb hby d4_110) rfl rfl k) ?_
  refine go _ (s₁.setTop (mkF m 113 #[.val (.ref a1), .val (.ref a2), .val (.ref a3)] [(.int (7 : Int32)), (.ref a3), (.long ((u 7) + (g 7)))])) (fun t k => XS.bipush X0.here hx rfl (hb hby d4_111) k) ?_
  refine go _ (s₁.setTop (mkF m 114 #[.val (.ref a1), .val (.ref a2), .val (.ref a3)] [(.long (f 7)), (.long ((u 7) + (g 7)))])) (own_ldJ X0 hx hZ e0 A3 (i := 7) (by decide) (by decide) (g := (mkF m 113 #[.val (.ref a1), .val (.ref a2), .val (.ref a3)] [(.int (7 : Int32)), (.ref a3), (.long ((u 7) + (g 7)))])) rfl rfl (hb hby d4_113) (v := (.long (f 7))) rfl) ?_
  refine go _ (s₁.setTop (mkF m 115 #[.val (.ref a1), .val (.ref a2), .val (.ref a3)] [(.int (lcmpW ((u 7) + (g 7)) (f 7)))])) (fun t k => XS.lcmp X0.here hx rfl (hb hby d4_114) rfl k) ?_
  have hc127 : (((u 7) + (g 7)) = (f 7)) := hq 7 (by decide)
  refine go _ (s₁.setTop (mkF m 118 #[.val (.ref a1), .val (.ref a2), .val (.ref a3)] [])) (fun t k => XS.ifNo X0.here hx rfl (hb hby d4_115) rfl ((if0 _ _).trans (teq ((lw_eq ((u 7) + (g 7)) (f 7)).mpr hc127)).2) k) ?_
  refine go _ (s₁.setTop (mkF m 119 #[.val (.ref a1), .val (.ref a2), .val (.ref a3)] [(.ref a1)])) (fun t k => XS.aloadN X0.here hx rfl (hb hby d4_118) rfl rfl k) ?_
  refine go _ (s₁.setTop (mkF m 121 #[.val (.ref a1), .val (.ref a2), .val (.ref a3)] [(.int (8 : Int32)), (.ref a1)])) (fun t k => XS.bipush X0.here hx rfl (hb hby d4_119) k) ?_
  refine go _ (s₁.setTop (mkF m 122 #[.val (.ref a1), .val (.ref a2), .val (.ref a3)] [(.long (u 8))])) (own_ldJ X0 hx hZ e0 A1 (i := 8) (by decide) (by decide) (g := (mkF m 121 #[.val (.ref a1), .val (.ref a2), .val (.ref a3)] [(.int (8 : Int32)), (.ref a1)])) rfl rfl (hb hby d4_121) (v := (.long (u 8))) rfl) ?_
  refine go _ (s₁.setTop (mkF m 123 #[.val (.ref a1), .val (.ref a2), .val (.ref a3)] [(.ref a2), (.long (u 8))])) (fun t k => XS.aloadN X0.here hx rfl (hb hby d4_122) rfl rfl k) ?_
  refine go _ (s₁.setTop (mkF m 125 #[.val (.ref a1), .val (.ref a2), .val (.ref a3)] [(.int (8 : Int32)), (.ref a2), (.long (u 8))])) (fun t k => XS.bipush X0.here hx rfl (hb hby d4_123) k) ?_
  refine go _ (s₁.setTop (mkF m 126 #[.val (.ref a1), .val (.ref a2), .val (.ref a3)] [(.long (g 8)), (.long (u 8))])) (own_ldJ X0 hx hZ e0 A2 (i := 8) (by decide) (by decide) (g := (mkF m 125 #[.val (.ref a1), .val (.ref a2), .val (.ref a3)] [(.int (8 : Int32)), (.ref a2), (.long (u 8))])) rfl rfl (hb hby d4_125) (v := (.long (g 8))) rfl) ?_
  refine go _ (s₁.setTop (mkF m 127 #[.val (.ref a1), .val (.ref a2), .val (.ref a3)] [(.long ((u 8) + (g 8)))])) (fun t k => XS.ladd X0.here hx rfl (hb hby d4_126) rfl k) ?_
  refine go _ (s₁.setTop (mkF m 128 #[.val (.ref a1), .val (.ref a2), .val (.ref a3)] [(.ref a3), (.long ((u 8) + (g 8)))])) (fun t k => XS.aloadN X0.here hx rfl (hb hby d4_127) rfl rfl k) ?_
  refine go _ (s₁.setTop (mkF m 130 #[.val (.ref a1), .val (.ref a2), .val (.ref a3)] [(.int (8 : Int32)), (.ref a3), (.long ((u 8) + (g 8)))])) (fun t k => XS.bipush X0.here hx rfl (hb hby d4_128) k) ?_
  refine go _ (s₁.setTop (mkF m 131 #[.val (.ref a1), .val (.ref a2), .val (.ref a3)] [(.long (f 8)), (.long ((u 8) + (g 8)))])) (own_ldJ X0 hx hZ e0 A3 (i := 8) (by decide) (by decide) (g := (mkF m 130 #[.val (.ref a1), .val (.ref a2), .val (.ref a3)] [(.int (8 : Int32)), (.ref a3), (.long ((u 8) + (g 8)))])) rfl rfl (hb hby d4_130) (v := (.long (f 8))) rfl) ?_
  refine go _ (s₁.setTop (mkF m 132 #[.val (.ref a1), .val (.ref a2), .val (.ref a3)] [(.int (lcmpW ((u 8) + (g 8)) (f 8)))])) (fun t k => XS.lcmp X0.here hx rfl (hb hby d4_131) rfl k) ?_
  have hc128 : (((u 8) + (g 8)) = (f 8)) := hq 8 (by decide)
  refine go _ (s₁.setTop (mkF m 135 #[.val (.ref a1), .val (.ref a2), .val (.ref a3)] [])) (fun t k => XS.ifNo X0.here hx rfl (hb hby d4_132) rfl ((if0 _ _).trans (teq ((lw_eq ((u 8) + (g 8)) (f 8)).mpr hc128)).2) k) ?_
  refine go _ (s₁.setTop (mkF m 136 #[.val (.ref a1), .val (.ref a2), .val (.ref a3)] [(.ref a1)])) (fun t k => XS.aloadN X0.here hx rfl (hb hby d4_135) rfl rfl k) ?_
  refine go _ (s₁.setTop (mkF m 138 #[.val (.ref a1), .val (.ref a2), .val (.ref a3)] [(.int (9 : Int32)), (.ref a1)])) (fun t k => XS.bipush X0.here hx rfl (hb hby d4_136) k) ?_
  refine go _ (s₁.setTop (mkF m 139 #[.val (.ref a1), .val (.ref a2), .val (.ref a3)] [(.long (u 9))])) (own_ldJ X0 hx hZ e0 A1 (i := 9) (by decide) (by decide) (g := (mkF m 138 #[.val (.ref a1), .val (.ref a2), .val (.ref a3)] [(.int (9 : Int32)), (.ref a1)])) rfl rfl (hb hby d4_138) (v := (.long (u 9))) rfl) ?_
  refine go _ (s₁.setTop (mkF m 140 #[.val (.ref a1), .val (.ref a2), .val (.ref a3)] [(.ref a2), (.long (u 9))])) (fun t k => XS.aloadN X0.here hx rfl (hb hby d4_139) rfl rfl k) ?_
  refine go _ (s₁.setTop (mkF m 142 #[.val (.ref a1), .val (.ref a2), .val (.ref a3)] [(.int (9 : Int32)), (.ref a2), (.long (u 9))])) (fun t k => XS.bipush X0.here hx rfl (hb hby d4_140) k) ?_
  refine go _ (s₁.setTop (mkF m 143 #[.val (.ref a1), .val (.ref a2), .val (.ref a3)] [(.long (g 9)), (.long (u 9))])) (own_ldJ X0 hx hZ e0 A2 (i := 9) (by decide) (by decide) (g := (mkF m 142 #[.val (.ref a1), .val (.ref a2), .val (.ref a3)] [(.int (9 : Int32)), (.ref a2), (.long (u 9))])) rfl rfl (hb hby d4_142) (v := (.long (g 9))) rfl) ?_
  refine go _ (s₁.setTop (mkF m 144 #[.val (.ref a1), .val (.ref a2), .val (.ref a3)] [(.long ((u 9) + (g 9)))])) (fun t k => XS.ladd X0.here hx rfl (hb hby d4_143) rfl k) ?_
  refine go _ (s₁.setTop (mkF m 145 #[.val (.ref a1), .val (.ref a2), .val (.ref a3)] [(.ref a3), (.long ((u 9) + (g 9)))])) (fun t k => XS.aloadN X0.here hx rfl (hb hby d4_144) rfl rfl k) ?_
  refine go _ (s₁.setTop (mkF m 147 #[.val (.ref a1), .val (.ref a2), .val (.ref a3)] [(.int (9 : Int32)), (.ref a3), (.long ((u 9) + (g 9)))])) (fun t k => XS.bipush X0.here hx rfl (hb hby d4_145) k) ?_
  refine go _ (s₁.setTop (mkF m 148 #[.val (.ref a1), .val (.ref a2), .val (.ref a3)] [(.long (f 9)), (.long ((u 9) + (g 9)))])) (own_ldJ X0 hx hZ e0 A3 (i := 9) (by decide) (by decide) (g := (mkF m 147 #[.val (.ref a1), .val (.ref a2), .val (.ref a3)] [(.int (9 : Int32)), (.ref a3), (.long ((u 9) + (g 9)))])) rfl rfl (hb hby d4_147) (v := (.long (f 9))) rfl) ?_
  refine go _ (s₁.setTop (mkF m 149 #[.val (.ref a1), .val (.ref a2), .val (.ref a3)] [(.int (lcmpW ((u 9) + (g 9)) (f 9)))])) (fun t k => XS.lcmp X0.here hx rfl (hb hby d4_148) rfl k) ?_
  have hc129 : (((u 9) + (g 9)) = (f 9)) := hq 9 (by decide)
  refine go _ (s₁.setTop (mkF m 152 #[.val (.ref a1), .val (.ref a2), .val (.ref a3)] [])) (fun t k => XS.ifNo X0.here hx rfl (hb hby d4_149) rfl ((if0 _ _).trans (teq ((lw_eq ((u 9) + (g 9)) (f 9)).mpr hc129)).2) k) ?_
  refine go _ (s₁.setTop (mkF m 153 #[.val (.ref a1), .val (.ref a2), .val (.ref a3)] [(.int (1 : Int32))])) (fun t k => XS.iconst X0.here hx rfl (hb hby d4_152) k) ?_
  refine go _ (s₁.setTop (mkF m 157 #[.val (.ref a1), .val (.ref a2), .val (.ref a3)] [(.int (1 : Int32))])) (fun t k => XS.goto X0.here hx rfl (pc0 := 153) (pc' := 157) rfl (hb hby d4_153) (by decide) (by decide) k) ?_
  exact fin (some (.int (1 : Int32))) X0 (by decide) (by decide) (fun q => by cases q) (show Q_rm4 Z a1 a2 a3 u g f h0 n0 _ s₁.heap _ from (by rw [e0]; exact ⟨rfl, N0, rfl⟩)) (fun fs hr => retN X0 hx (t := .boolean) hret (by simp) (hb hby d4_157) hr)
theorem d5_0 : decode method_4_code 0 = .ok (.aload_n 0, 1) := by decide +kernel
theorem d5_1 : decode method_4_code 1 = .ok (.iconst 0, 1) := by decide +kernel
theorem d5_2 : decode method_4_code 2 = .ok (.laload, 1) := by decide +kernel
theorem d5_3 : decode method_4_code 3 = .ok (.aload_n 1, 1) := by decide +kernel
theorem d5_4 : decode method_4_code 4 = .ok (.iconst 0, 1) := by decide +kernel
theorem d5_5 : decode method_4_code 5 = .ok (.laload, 1) := by decide +kernel
theorem d5_6 : decode method_4_code 6 = .ok (.lcmp, 1) := by decide +kernel
theorem d5_7 : decode method_4_code 7 = .ok (.ifCond .ne 105, 3) := by decide +kernel
theorem d5_10 : decode method_4_code 10 = .ok (.aload_n 0, 1) := by decide +kernel
theorem d5_11 : decode method_4_code 11 = .ok (.iconst 1, 1) := by decide +kernel
theorem d5_12 : decode method_4_code 12 = .ok (.laload, 1) := by decide +kernel
theorem d5_13 : decode method_4_code 13 = .ok (.aload_n 1, 1) := by decide +kernel
theorem d5_14 : decode method_4_code 14 = .ok (.iconst 1, 1) := by decide +kernel
theorem d5_15 : decode method_4_code 15 = .ok (.laload, 1) := by decide +kernel
theorem d5_16 : decode method_4_code 16 = .ok (.lcmp, 1) := by decide +kernel
theorem d5_17 : decode method_4_code 17 = .ok (.ifCond .ne 95, 3) := by decide +kernel
theorem d5_20 : decode method_4_code 20 = .ok (.aload_n 0, 1) := by decide +kernel
theorem d5_21 : decode method_4_code 21 = .ok (.iconst 2, 1) := by decide +kernel
theorem d5_22 : decode method_4_code 22 = .ok (.laload, 1) := by decide +kernel
theorem d5_23 : decode method_4_code 23 = .ok (.aload_n 1, 1) := by decide +kernel
theorem d5_24 : decode method_4_code 24 = .ok (.iconst 2, 1) := by decide +kernel
theorem d5_25 : decode method_4_code 25 = .ok (.laload, 1) := by decide +kernel
theorem d5_26 : decode method_4_code 26 = .ok (.lcmp, 1) := by decide +kernel
theorem d5_27 : decode method_4_code 27 = .ok (.ifCond .ne 85, 3) := by decide +kernel
theorem d5_30 : decode method_4_code 30 = .ok (.aload_n 0, 1) := by decide +kernel
theorem d5_31 : decode method_4_code 31 = .ok (.iconst 3, 1) := by decide +kernel
theorem d5_32 : decode method_4_code 32 = .ok (.laload, 1) := by decide +kernel
theorem d5_33 : decode method_4_code 33 = .ok (.aload_n 1, 1) := by decide +kernel
theorem d5_34 : decode method_4_code 34 = .ok (.iconst 3, 1) := by decide +kernel
theorem d5_35 : decode method_4_code 35 = .ok (.laload, 1) := by decide +kernel
theorem d5_36 : decode method_4_code 36 = .ok (.lcmp, 1) := by decide +kernel
theorem d5_37 : decode method_4_code 37 = .ok (.ifCond .ne 75, 3) := by decide +kernel
theorem d5_40 : decode method_4_code 40 = .ok (.aload_n 0, 1) := by decide +kernel
theorem d5_41 : decode method_4_code 41 = .ok (.iconst 4, 1) := by decide +kernel
theorem d5_42 : decode method_4_code 42 = .ok (.laload, 1) := by decide +kernel
theorem d5_43 : decode method_4_code 43 = .ok (.aload_n 1, 1) := by decide +kernel
theorem d5_44 : decode method_4_code 44 = .ok (.iconst 4, 1) := by decide +kernel
theorem d5_45 : decode method_4_code 45 = .ok (.laload, 1) := by decide +kernel
theorem d5_46 : decode method_4_code 46 = .ok (.lcmp, 1) := by decide +kernel
theorem d5_47 : decode method_4_code 47 = .ok (.ifCond .ne 65, 3) := by decide +kernel
theorem d5_50 : decode method_4_code 50 = .ok (.aload_n 0, 1) := by decide +kernel
theorem d5_51 : decode method_4_code 51 = .ok (.iconst 5, 1) := by decide +kernel
theorem d5_52 : decode method_4_code 52 = .ok (.laload, 1) := by decide +kernel
theorem d5_53 : decode method_4_code 53 = .ok (.aload_n 1, 1) := by decide +kernel
theorem d5_54 : decode method_4_code 54 = .ok (.iconst 5, 1) := by decide +kernel
theorem d5_55 : decode method_4_code 55 = .ok (.laload, 1) := by decide +kernel
theorem d5_56 : decode method_4_code 56 = .ok (.lcmp, 1) := by decide +kernel
theorem d5_57 : decode method_4_code 57 = .ok (.ifCond .ne 55, 3) := by decide +kernel
theorem d5_60 : decode method_4_code 60 = .ok (.aload_n 0, 1) := by decide +kernel
theorem d5_61 : decode method_4_code 61 = .ok (.bipush 6, 2) := by decide +kernel
theorem d5_63 : decode method_4_code 63 = .ok (.laload, 1) := by decide +kernel
theorem d5_64 : decode method_4_code 64 = .ok (.aload_n 1, 1) := by decide +kernel
theorem d5_65 : decode method_4_code 65 = .ok (.bipush 6, 2) := by decide +kernel
theorem d5_67 : decode method_4_code 67 = .ok (.laload, 1) := by decide +kernel
theorem d5_68 : decode method_4_code 68 = .ok (.lcmp, 1) := by decide +kernel
theorem d5_69 : decode method_4_code 69 = .ok (.ifCond .ne 43, 3) := by decide +kernel
theorem d5_72 : decode method_4_code 72 = .ok (.aload_n 0, 1) := by decide +kernel
theorem d5_73 : decode method_4_code 73 = .ok (.bipush 7, 2) := by decide +kernel
theorem d5_75 : decode method_4_code 75 = .ok (.laload, 1) := by decide +kernel
theorem d5_76 : decode method_4_code 76 = .ok (.aload_n 1, 1) := by decide +kernel
theorem d5_77 : decode method_4_code 77 = .ok (.bipush 7, 2) := by decide +kernel
theorem d5_79 : decode method_4_code 79 = .ok (.laload, 1) := by decide +kernel
theorem d5_80 : decode method_4_code 80 = .ok (.lcmp, 1) := by decide +kernel
theorem d5_81 : decode method_4_code 81 = .ok (.ifCond .ne 31, 3) := by decide +kernel
theorem d5_84 : decode method_4_code 84 = .ok (.aload_n 0, 1) := by decide +kernel
theorem d5_85 : decode method_4_code 85 = .ok (.bipush 8, 2) := by decide +kernel
theorem d5_87 : decode method_4_code 87 = .ok (.laload, 1) := by decide +kernel
theorem d5_88 : decode method_4_code 88 = .ok (.aload_n 1, 1) := by decide +kernel
theorem d5_89 : decode method_4_code 89 = .ok (.bipush 8, 2) := by decide +kernel
theorem d5_91 : decode method_4_code 91 = .ok (.laload, 1) := by decide +kernel
theorem d5_92 : decode method_4_code 92 = .ok (.lcmp, 1) := by decide +kernel
theorem d5_93 : decode method_4_code 93 = .ok (.ifCond .ne 19, 3) := by decide +kernel
theorem d5_96 : decode method_4_code 96 = .ok (.aload_n 0, 1) := by decide +kernel
theorem d5_97 : decode method_4_code 97 = .ok (.bipush 9, 2) := by decide +kernel
theorem d5_99 : decode method_4_code 99 = .ok (.laload, 1) := by decide +kernel
theorem d5_100 : decode method_4_code 100 = .ok (.aload_n 1, 1) := by decide +kernel
theorem d5_101 : decode method_4_code 101 = .ok (.bipush 9, 2) := by decide +kernel
theorem d5_103 : decode method_4_code 103 = .ok (.laload, 1) := by decide +kernel
theorem d5_104 : decode method_4_code 104 = .ok (.lcmp, 1) := by decide +kernel
theorem d5_105 : decode method_4_code 105 = .ok (.ifCond .ne 7, 3) := by decide +kernel
theorem d5_108 : decode method_4_code 108 = .ok (.iconst 1, 1) := by decide +kernel
theorem d5_109 : decode method_4_code 109 = .ok (.goto 4, 3) := by decide +kernel
theorem d5_112 : decode method_4_code 112 = .ok (.iconst 0, 1) := by decide +kernel
theorem d5_113 : decode method_4_code 113 = .ok (.ireturn, 1) := by decide +kernel
theorem ef_rm5 (m : MethodId) (a1 : Addr) (a2 : Addr) : entryFrame m #[(.ref a1), (.ref a2)] 2 = mkF m 0 #[.val (.ref a1), .val (.ref a2)] [] := by first | (simp [entryFrame, mkF, argsToLocals, Value.category]; done) | rfl
def Q_rm5 (Z : State) (a1 : Addr) (a2 : Addr) (f : Nat → Int64) (h0 : Heap) (n0 : Nat) (v : Option Value) (h : Heap) (L : List Loc) : Prop := v = some (.int (1 : Int32)) ∧ Fr n0 L ∧ h = h0
set_option maxRecDepth 65536 in
set_option maxHeartbeats 40000000 in
theorem rm5 (l : Launch) (Z : State) (a0 : Array Value) (hw : ∀ d ∈ tables_1, d.before a0 Z = true) (ws : List Jvm.Cond) (a1 : Addr) (a2 : Addr) (f : Nat → Int64) (h0 : Heap) (n0 : Nat) (Z0 : n0 ≤ h0.size) (A1 : AF Z h0 a1 .long 10 (fun j => .long (f j))) (A2 : AF Z h0 a2 .long 10 (fun j => .long (f j))) :
    MetFree l (⟨"com/example/withhold/withhold/crypto/Field25519SubtractPinLaw", "same10", "([J[J)Z"⟩ : MethodName) (head1 (Jvm.Cond.code (⟨"com/example/withhold/withhold/crypto/Field25519SubtractPinLaw", "same10", "([J[J)Z"⟩ : MethodName) method_4_code 2 (some .boolean) :: ws) ({ frames := 0, cells := 0, slots := 0, locals := 0 } : Room)) (fun a U => a = #[(.ref a1), (.ref a2)] ∧ Z.Warmed39 U.vm ∧ U.heap = h0) (fun _ _ _ _ _ => True) (fun _ U o U' => ∃ v L, o = .returned v ∧ Q_rm5 Z a1 a2 f h0 n0 v U'.heap L ∧ FrameEnd U o U' L ({ frames := 0, cells := 0, slots := 0, locals := 0 } : Room).cells ({ frames := 0, cells := 0, slots := 0, locals := 0 } : Room).slots) := by
  refine own_body (Q := Q_rm5 Z a1 a2 f h0 n0) (plainFor_of_name pn_7) ?_
  intro p e s m below meth c s₁ K go fin X0 hx hby hml hown hnm hret hZ e0
  have hown : s.vm.findClass "com/example/withhold/withhold/crypto/Field25519SubtractPinLaw" = some m.cls := hown
  have N0 := Fr.nil n0
  refine go _ (s₁.setTop (mkF m 0 #[.val (.ref a1), .val (.ref a2)] [])) (fun t k => castTop (ef_rm5 m a1 a2) k) ?_
  refine go _ (s₁.setTop (mkF m 1 #[.val (.ref a1), .val (.ref a2)] [(.ref a1)])) (fun t k => XS.aloadN X0.here hx rfl (hb hby d5_0) rfl rfl k) ?_
  refine go _ (s₁.setTop (mkF m 2 #[.val (.ref a1), .val (.ref a2)] [(.int (0 : Int32)), (.ref a1)])) (fun t k => XS.iconst X0.here hx rfl (hb hby d5_1) k) ?_
  refine go _ (s₁.setTop (mkF m 3 #[.val (.ref a1), .val (.ref a2)] [(.long (f 0))])) (own_ldJ X0 hx hZ e0 A1 (i := 0) (by decide) (by decide) (g := (mkF m 2 #[.val (.ref a1), .val (.ref a2)] [(.int (0 : Int32)), (.ref a1)])) rfl rfl (hb hby d5_2) (v := (.long (f 0))) rfl) ?_
  refine go _ (s₁.setTop (mkF m 4 #[.val (.ref a1), .val (.ref a2)] [(.ref a2), (.long (f 0))])) (fun t k => XS.aloadN X0.here hx rfl (hb hby d5_3) rfl rfl k) ?_
  refine go _ (s₁.setTop (mkF m 5 #[.val (.ref a1), .val (.ref a2)] [(.int (0 : Int32)), (.ref a2), (.long (f 0))])) (fun t k => XS.iconst X0.here hx rfl (hb hby d5_4) k) ?_
  refine go _ (s₁.setTop (mkF m 6 #[.val (.ref a1), .val (.ref a2)] [(.long (f 0)), (.long (f 0))])) (own_ldJ X0 hx hZ e0 A2 (i := 0) (by decide) (by decide) (g := (mkF m 5 #[.val (.ref a1), .val (.ref a2)] [(.int (0 : Int32)), (.ref a2), (.long (f 0))])) rfl rfl (hb hby d5_5) (v := (.long (f 0))) rfl) ?_
  refine go _ (s₁.setTop (mkF m 7 #[.val (.ref a1), .val (.ref a2)] [(.int (lcmpW (f 0) (f 0)))])) (fun t k => XS.lcmp X0.here hx rfl (hb hby d5_6) rfl k) ?_
  have hc130 : ((f 0) = (f 0)) := rfl
  refine go _ (s₁.setTop (mkF m 10 #[.val (.ref a1), .val (.ref a2)] [])) (fun t k => XS.ifNo X0.here hx rfl (hb hby d5_7) rfl ((if0 _ _).trans (teq ((lw_eq (f 0) (f 0)).mpr hc130)).2) k) ?_
  refine go _ (s₁.setTop (mkF m 11 #[.val (.ref a1), .val (.ref a2)] [(.ref a1)])) (fun t k => XS.aloadN X0.here hx rfl (hb hby d5_10) rfl rfl k) ?_
  refine go _ (s₁.setTop (mkF m 12 #[.val (.ref a1), .val (.ref a2)] [(.int (1 : Int32)), (.ref a1)])) (fun t k => XS.iconst X0.here hx rfl (hb hby d5_11) k) ?_
  refine go _ (s₁.setTop (mkF m 13 #[.val (.ref a1), .val (.ref a2)] [(.long (f 1))])) (own_ldJ X0 hx hZ e0 A1 (i := 1) (by decide) (by decide) (g := (mkF m 12 #[.val (.ref a1), .val (.ref a2)] [(.int (1 : Int32)), (.ref a1)])) rfl rfl (hb hby d5_12) (v := (.long (f 1))) rfl) ?_
  refine go _ (s₁.setTop (mkF m 14 #[.val (.ref a1), .val (.ref a2)] [(.ref a2), (.long (f 1))])) (fun t k => XS.aloadN X0.here hx rfl (hb hby d5_13) rfl rfl k) ?_
  refine go _ (s₁.setTop (mkF m 15 #[.val (.ref a1), .val (.ref a2)] [(.int (1 : Int32)), (.ref a2), (.long (f 1))])) (fun t k => XS.iconst X0.here hx rfl (hb hby d5_14) k) ?_
  refine go _ (s₁.setTop (mkF m 16 #[.val (.ref a1), .val (.ref a2)] [(.long (f 1)), (.long (f 1))])) (own_ldJ X0 hx hZ e0 A2 (i := 1) (by decide) (by decide) (g := (mkF m 15 #[.val (.ref a1), .val (.ref a2)] [(.int (1 : Int32)), (.ref a2), (.long (f 1))])) rfl rfl (hb hby d5_15) (v := (.long (f 1))) rfl) ?_
  refine go _ (s₁.setTop (mkF m 17 #[.val (.ref a1), .val (.ref a2)] [(.int (lcmpW (f 1) (f 1)))])) (fun t k => XS.lcmp X0.here hx rfl (hb hby d5_16) rfl k) ?_
  have hc131 : ((f 1) = (f 1)) := rfl
  refine go _ (s₁.setTop (mkF m 20 #[.val (.ref a1), .val (.ref a2)] [])) (fun t k => XS.ifNo X0.here hx rfl (hb hby d5_17) rfl ((if0 _ _).trans (teq ((lw_eq (f 1) (f 1)).mpr hc131)).2) k) ?_
  refine go _ (s₁.setTop (mkF m 21 #[.val (.ref a1), .val (.ref a2)] [(.ref a1)])) (fun t k => XS.aloadN X0.here hx rfl (hb hby d5_20) rfl rfl k) ?_
  refine go _ (s₁.setTop (mkF m 22 #[.val (.ref a1), .val (.ref a2)] [(.int (2 : Int32)), (.ref a1)])) (fun t k => XS.iconst X0.here hx rfl (hb hby d5_21) k) ?_
  refine go _ (s₁.setTop (mkF m 23 #[.val (.ref a1), .val (.ref a2)] [(.long (f 2))])) (own_ldJ X0 hx hZ e0 A1 (i := 2) (by decide) (by decide) (g := (mkF m 22 #[.val (.ref a1), .val (.ref a2)] [(.int (2 : Int32)), (.ref a1)])) rfl rfl (hb hby d5_22) (v := (.long (f 2))) rfl) ?_
  refine go _ (s₁.setTop (mkF m 24 #[.val (.ref a1), .val (.ref a2)] [(.ref a2), (.long (f 2))])) (fun t k => XS.aloadN X0.here hx rfl (hb hby d5_23) rfl rfl k) ?_
  refine go _ (s₁.setTop (mkF m 25 #[.val (.ref a1), .val (.ref a2)] [(.int (2 : Int32)), (.ref a2), (.long (f 2))])) (fun t k => XS.iconst X0.here hx rfl (hb hby d5_24) k) ?_
  refine go _ (s₁.setTop (mkF m 26 #[.val (.ref a1), .val (.ref a2)] [(.long (f 2)), (.long (f 2))])) (own_ldJ X0 hx hZ e0 A2 (i := 2) (by decide) (by decide) (g := (mkF m 25 #[.val (.ref a1), .val (.ref a2)] [(.int (2 : Int32)), (.ref a2), (.long (f 2))])) rfl rfl (hb hby d5_25) (v := (.long (f 2))) rfl) ?_
  refine go _ (s₁.setTop (mkF m 27 #[.val (.ref a1), .val (.ref a2)] [(.int (lcmpW (f 2) (f 2)))])) (fun t k => XS.lcmp X0.here hx rfl (hb hby d5_26) rfl k) ?_
  have hc132 : ((f 2) = (f 2)) := rfl
  refine go _ (s₁.setTop (mkF m 30 #[.val (.ref a1), .val (.ref a2)] [])) (fun t k => XS.ifNo X0.here hx rfl (hb hby d5_27) rfl ((if0 _ _).trans (teq ((lw_eq (f 2) (f 2)).mpr hc132)).2) k) ?_
  refine go _ (s₁.setTop (mkF m 31 #[.val (.ref a1), .val (.ref a2)] [(.ref a1)])) (fun t k => XS.aloadN X0.here hx rfl (hb hby d5_30) rfl rfl k) ?_
  refine go _ (s₁.setTop (mkF m 32 #[.val (.ref a1), .val (.ref a2)] [(.int (3 : Int32)), (.ref a1)])) (fun t k => XS.iconst X0.here hx rfl (hb hby d5_31) k) ?_
  refine go _ (s₁.setTop (mkF m 33 #[.val (.ref a1), .val (.ref a2)] [(.long (f 3))])) (own_ldJ X0 hx hZ e0 A1 (i := 3) (by decide) (by decide) (g := (mkF m 32 #[.val (.ref a1), .val (.ref a2)] [(.int (3 : Int32)), (.ref a1)])) rfl rfl (hb hby d5_32) (v := (.long (f 3))) rfl) ?_
  refine go _ (s₁.setTop (mkF m 34 #[.val (.ref a1), .val (.ref a2)] [(.ref a2), (.long (f 3))])) (fun t k => XS.aloadN X0.here hx rfl (hb hby d5_33) rfl rfl k) ?_
  refine go _ (s₁.setTop (mkF m 35 #[.val (.ref a1), .val (.ref a2)] [(.int (3 : Int32)), (.ref a2), (.long (f 3))])) (fun t k => XS.iconst X0.here hx rfl (hb hby d5_34) k) ?_
  refine go _ (s₁.setTop (mkF m 36 #[.val (.ref a1), .val (.ref a2)] [(.long (f 3)), (.long (f 3))])) (own_ldJ X0 hx hZ e0 A2 (i := 3) (by decide) (by decide) (g := (mkF m 35 #[.val (.ref a1), .val (.ref a2)] [(.int (3 : Int32)), (.ref a2), (.long (f 3))])) rfl rfl (hb hby d5_35) (v := (.long (f 3))) rfl) ?_
  refine go _ (s₁.setTop (mkF m 37 #[.val (.ref a1), .val (.ref a2)] [(.int (lcmpW (f 3) (f 3)))])) (fun t k => XS.lcmp X0.here hx rfl (hb hby d5_36) rfl k) ?_
  have hc133 : ((f 3) = (f 3)) := rfl
  refine go _ (s₁.setTop (mkF m 40 #[.val (.ref a1), .val (.ref a2)] [])) (fun t k => XS.ifNo X0.here hx rfl (hb hby d5_37) rfl ((if0 _ _).trans (teq ((lw_eq (f 3) (f 3)).mpr hc133)).2) k) ?_
  refine go _ (s₁.setTop (mkF m 41 #[.val (.ref a1), .val (.ref a2)] [(.ref a1)])) (fun t k => XS.aloadN X0.here hx rfl (hb hby d5_40) rfl rfl k) ?_
  refine go _ (s₁.setTop (mkF m 42 #[.val (.ref a1), .val (.ref a2)] [(.int (4 : Int32)), (.ref a1)])) (fun t k => XS.iconst X0.here hx rfl (hb hby d5_41) k) ?_
  refine go _ (s₁.setTop (mkF m 43 #[.val (.ref a1), .val (.ref a2)] [(.long (f 4))])) (own_ldJ X0 hx hZ e0 A1 (i := 4) (by decide) (by decide) (g := (mkF m 42 #[.val (.ref a1), .val (.ref a2)] [(.int (4 : Int32)), (.ref a1)])) rfl rfl (hb hby d5_42) (v := (.long (f 4))) rfl) ?_
  refine go _ (s₁.setTop (mkF m 44 #[.val (.ref a1), .val (.ref a2)] [(.ref a2), (.long (f 4))])) (fun t k => XS.aloadN X0.here hx rfl (hb hby d5_43) rfl rfl k) ?_
  refine go _ (s₁.setTop (mkF m 45 #[.val (.ref a1), .val (.ref a2)] [(.int (4 : Int32)), (.ref a2), (.long (f 4))])) (fun t k => XS.iconst X0.here hx rfl (hb hby d5_44) k) ?_
  refine go _ (s₁.setTop (mkF m 46 #[.val (.ref a1), .val (.ref a2)] [(.long (f 4)), (.long (f 4))])) (own_ldJ X0 hx hZ e0 A2 (i := 4) (by decide) (by decide) (g := (mkF m 45 #[.val (.ref a1), .val (.ref a2)] [(.int (4 : Int32)), (.ref a2), (.long (f 4))])) rfl rfl (hb hby d5_45) (v := (.long (f 4))) rfl) ?_
  refine go _ (s₁.setTop (mkF m 47 #[.val (.ref a1), .val (.ref a2)] [(.int (lcmpW (f 4) (f 4)))])) (fun t k => XS.lcmp X0.here hx rfl (hb hby d5_46) rfl k) ?_
  have hc134 : ((f 4) = (f 4)) := rfl
  refine go _ (s₁.setTop (mkF m 50 #[.val (.ref a1), .val (.ref a2)] [])) (fun t k => XS.ifNo X0.here hx rfl (hb hby d5_47) rfl ((if0 _ _).trans (teq ((lw_eq (f 4) (f 4)).mpr hc134)).2) k) ?_
  refine go _ (s₁.setTop (mkF m 51 #[.val (.ref a1), .val (.ref a2)] [(.ref a1)])) (fun t k => XS.aloadN X0.here hx rfl (hb hby d5_50) rfl rfl k) ?_
  refine go _ (s₁.setTop (mkF m 52 #[.val (.ref a1), .val (.ref a2)] [(.int (5 : Int32)), (.ref a1)])) (fun t k => XS.iconst X0.here hx rfl (hb hby d5_51) k) ?_
  refine go _ (s₁.setTop (mkF m 53 #[.val (.ref a1), .val (.ref a2)] [(.long (f 5))])) (own_ldJ X0 hx hZ e0 A1 (i := 5) (by decide) (by decide) (g := (mkF m 52 #[.val (.ref a1), .val (.ref a2)] [(.int (5 : Int32)), (.ref a1)])) rfl rfl (hb hby d5_52) (v := (.long (f 5))) rfl) ?_
  refine go _ (s₁.setTop (mkF m 54 #[.val (.ref a1), .val (.ref a2)] [(.ref a2), (.long (f 5))])) (fun t k => XS.aloadN X0.here hx rfl (hb hby d5_53) rfl rfl k) ?_
  refine go _ (s₁.setTop (mkF m 55 #[.val (.ref a1), .val (.ref a2)] [(.int (5 : Int32)), (.ref a2), (.long (f 5))])) (fun t k => XS.iconst X0.here hx rfl (hb hby d5_54) k) ?_
  refine go _ (s₁.setTop (mkF m 56 #[.val (.ref a1), .val (.ref a2)] [(.long (f 5)), (.long (f 5))])) (own_ldJ X0 hx hZ e0 A2 (i := 5) (by decide) (by decide) (g := (mkF m 55 #[.val (.ref a1), .val (.ref a2)] [(.int (5 : Int32)), (.ref a2), (.long (f 5))])) rfl rfl (hb hby d5_55) (v := (.long (f 5))) rfl) ?_
  refine go _ (s₁.setTop (mkF m 57 #[.val (.ref a1), .val (.ref a2)] [(.int (lcmpW (f 5) (f 5)))])) (fun t k => XS.lcmp X0.here hx rfl (hb hby d5_56) rfl k) ?_
  have hc135 : ((f 5) = (f 5)) := rfl
  refine go _ (s₁.setTop (mkF m 60 #[.val (.ref a1), .val (.ref a2)] [])) (fun t k => XS.ifNo X0.here hx rfl (hb hby d5_57) rfl ((if0 _ _).trans (teq ((lw_eq (f 5) (f 5)).mpr hc135)).2) k) ?_
  refine go _ (s₁.setTop (mkF m 61 #[.val (.ref a1), .val (.ref a2)] [(.ref a1)])) (fun t k => XS.aloadN X0.here hx rfl (hb hby d5_60) rfl rfl k) ?_
  refine go _ (s₁.setTop (mkF m 63 #[.val (.ref a1), .val (.ref a2)] [(.int (6 : Int32)), (.ref a1)])) (fun t k => XS.bipush X0.here hx rfl (hb hby d5_61) k) ?_
  refine go _ (s₁.setTop (mkF m 64 #[.val (.ref a1), .val (.ref a2)] [(.long (f 6))])) (own_ldJ X0 hx hZ e0 A1 (i := 6) (by decide) (by decide) (g := (mkF m 63 #[.val (.ref a1), .val (.ref a2)] [(.int (6 : Int32)), (.ref a1)])) rfl rfl (hb hby d5_63) (v := (.long (f 6))) rfl) ?_
  refine go _ (s₁.setTop (mkF m 65 #[.val (.ref a1), .val (.ref a2)] [(.ref a2), (.long (f 6))])) (fun t k => XS.aloadN X0.here hx rfl (hb hby d5_64) rfl rfl k) ?_
  refine go _ (s₁.setTop (mkF m 67 #[.val (.ref a1), .val (.ref a2)] [(.int (6 : Int32)), (.ref a2), (.long (f 6))])) (fun t k => XS.bipush X0.here hx rfl (hb hby d5_65) k) ?_
  refine go _ (s₁.setTop (mkF m 68 #[.val (.ref a1), .val (.ref a2)] [(.long (f 6)), (.long (f 6))])) (own_ldJ X0 hx hZ e0 A2 (i := 6) (by decide) (by decide) (g := (mkF m 67 #[.val (.ref a1), .val (.ref a2)] [(.int (6 : Int32)), (.ref a2), (.long (f 6))])) rfl rfl (hb hby d5_67) (v := (.long (f 6))) rfl) ?_
  refine go _ (s₁.setTop (mkF m 69 #[.val (.ref a1), .val (.ref a2)] [(.int (lcmpW (f 6) (f 6)))])) (fun t k => XS.lcmp X0.here hx rfl (hb hby d5_68) rfl k) ?_
  have hc136 : ((f 6) = (f 6)) := rfl
  refine go _ (s₁.setTop (mkF m 72 #[.val (.ref a1), .val (.ref a2)] [])) (fun t k => XS.ifNo X0.here hx rfl (hb hby d5_69) rfl ((if0 _ _).trans (teq ((lw_eq (f 6) (f 6)).mpr hc136)).2) k) ?_
  refine go _ (s₁.setTop (mkF m 73 #[.val (.ref a1), .val (.ref a2)] [(.ref a1)])) (fun t k => XS.aloadN X0.here hx rfl (hb hby d5_72) rfl rfl k) ?_
  refine go _ (s₁.setTop (mkF m 75 #[.val (.ref a1), .val (.ref a2)] [(.int (7 : Int32)), (.ref a1)])) (fun t k => XS.bipush X0.here hx rfl (hb hby d5_73) k) ?_
  refine go _ (s₁.setTop (mkF m 76 #[.val (.ref a1), .val (.ref a2)] [(.long (f 7))])) (own_ldJ X0 hx hZ e0 A1 (i := 7) (by decide) (by decide) (g := (mkF m 75 #[.val (.ref a1), .val (.ref a2)] [(.int (7 : Int32)), (.ref a1)])) rfl rfl (hb hby d5_75) (v := (.long (f 7))) rfl) ?_
  refine go _ (s₁.setTop (mkF m 77 #[.val (.ref a1), .val (.ref a2)] [(.ref a2), (.long (f 7))])) (fun t k => XS.aloadN X0.here hx rfl (hb hby d5_76) rfl rfl k) ?_
  refine go _ (s₁.setTop (mkF m 79 #[.val (.ref a1), .val (.ref a2)] [(.int (7 : Int32)), (.ref a2), (.long (f 7))])) (fun t k => XS.bipush X0.here hx rfl (hb hby d5_77) k) ?_
  refine go _ (s₁.setTop (mkF m 80 #[.val (.ref a1), .val (.ref a2)] [(.long (f 7)), (.long (f 7))])) (own_ldJ X0 hx hZ e0 A2 (i := 7) (by decide) (by decide) (g := (mkF m 79 #[.val (.ref a1), .val (.ref a2)] [(.int (7 : Int32)), (.ref a2), (.long (f 7))])) rfl rfl (hb hby d5_79) (v := (.long (f 7))) rfl) ?_
  refine go _ (s₁.setTop (mkF m 81 #[.val (.ref a1), .val (.ref a2)] [(.int (lcmpW (f 7) (f 7)))])) (fun t k => XS.lcmp X0.here hx rfl (hb hby d5_80) rfl k) ?_
  have hc137 : ((f 7) = (f 7)) := rfl
  refine go _ (s₁.setTop (mkF m 84 #[.val (.ref a1), .val (.ref a2)] [])) (fun t k => XS.ifNo X0.here hx rfl (hb hby d5_81) rfl ((if0 _ _).trans (teq ((lw_eq (f 7) (f 7)).mpr hc137)).2) k) ?_
  refine go _ (s₁.setTop (mkF m 85 #[.val (.ref a1), .val (.ref a2)] [(.ref a1)])) (fun t k => XS.aloadN X0.here hx rfl (hb hby d5_84) rfl rfl k) ?_
  refine go _ (s₁.setTop (mkF m 87 #[.val (.ref a1), .val (.ref a2)] [(.int (8 : Int32)), (.ref a1)])) (fun t k => XS.bipush X0.here hx rfl (hb hby d5_85) k) ?_
  refine go _ (s₁.setTop (mkF m 88 #[.val (.ref a1), .val (.ref a2)] [(.long (f 8))])) (own_ldJ X0 hx hZ e0 A1 (i := 8) (by decide) (by decide) (g := (mkF m 87 #[.val (.ref a1), .val (.ref a2)] [(.int (8 : Int32)), (.ref a1)])) rfl rfl (hb hby d5_87) (v := (.long (f 8))) rfl) ?_
  refine go _ (s₁.setTop (mkF m 89 #[.val (.ref a1), .val (.ref a2)] [(.ref a2), (.long (f 8))])) (fun t k => XS.aloadN X0.here hx rfl (hb hby d5_88) rfl rfl k) ?_
  refine go _ (s₁.setTop (mkF m 91 #[.val (.ref a1), .val (.ref a2)] [(.int (8 : Int32)), (.ref a2), (.long (f 8))])) (fun t k => XS.bipush X0.here hx rfl (hb hby d5_89) k) ?_
  refine go _ (s₁.setTop (mkF m 92 #[.val (.ref a1), .val (.ref a2)] [(.long (f 8)), (.long (f 8))])) (own_ldJ X0 hx hZ e0 A2 (i := 8) (by decide) (by decide) (g := (mkF m 91 #[.val (.ref a1), .val (.ref a2)] [(.int (8 : Int32)), (.ref a2), (.long (f 8))])) rfl rfl (hb hby d5_91) (v := (.long (f 8))) rfl) ?_
  refine go _ (s₁.setTop (mkF m 93 #[.val (.ref a1), .val (.ref a2)] [(.int (lcmpW (f 8) (f 8)))])) (fun t k => XS.lcmp X0.here hx rfl (hb hby d5_92) rfl k) ?_
  have hc138 : ((f 8) = (f 8)) := rfl
  refine go _ (s₁.setTop (mkF m 96 #[.val (.ref a1), .val (.ref a2)] [])) (fun t k => XS.ifNo X0.here hx rfl (hb hby d5_93) rfl ((if0 _ _).trans (teq ((lw_eq (f 8) (f 8)).mpr hc138)).2) k) ?_
  refine go _ (s₁.setTop (mkF m 97 #[.val (.ref a1), .val (.ref a2)] [(.ref a1)])) (fun t k => XS.aloadN X0.here hx rfl (hb hby d5_96) rfl rfl k) ?_
  refine go _ (s₁.setTop (mkF m 99 #[.val (.ref a1), .val (.ref a2)] [(.int (9 : Int32)), (.ref a1)])) (fun t k => XS.bipush X0.here hx rfl (hb hby d5_97) k) ?_
  refine go _ (s₁.setTop (mkF m 100 #[.val (.ref a1), .val (.ref a2)] [(.long (f 9))])) (own_ldJ X0 hx hZ e0 A1 (i := 9) (by decide) (by decide) (g := (mkF m 99 #[.val (.ref a1), .val (.ref a2)] [(.int (9 : Int32)), (.ref a1)])) rfl rfl (hb hby d5_99) (v := (.long (f 9))) rfl) ?_
  refine go _ (s₁.setTop (mkF m 101 #[.val (.ref a1), .val (.ref a2)] [(.ref a2), (.long (f 9))])) (fun t k => XS.aloadN X0.here hx rfl (hb hby d5_100) rfl rfl k) ?_
  refine go _ (s₁.setTop (mkF m 103 #[.val (.ref a1), .val (.ref a2)] [(.int (9 : Int32)), (.ref a2), (.long (f 9))])) (fun t k => XS.bipush X0.here hx rfl (hb hby d5_101) k) ?_
  refine go _ (s₁.setTop (mkF m 104 #[.val (.ref a1), .val (.ref a2)] [(.long (f 9)), (.long (f 9))])) (own_ldJ X0 hx hZ e0 A2 (i := 9) (by decide) (by decide) (g := (mkF m 103 #[.val (.ref a1), .val (.ref a2)] [(.int (9 : Int32)), (.ref a2), (.long (f 9))])) rfl rfl (hb hby d5_103) (v := (.long (f 9))) rfl) ?_
  refine go _ (s₁.setTop (mkF m 105 #[.val (.ref a1), .val (.ref a2)] [(.int (lcmpW (f 9) (f 9)))])) (fun t k => XS.lcmp X0.here hx rfl (hb hby d5_104) rfl k) ?_
  have hc139 : ((f 9) = (f 9)) := rfl
  refine go _ (s₁.setTop (mkF m 108 #[.val (.ref a1), .val (.ref a2)] [])) (fun t k => XS.ifNo X0.here hx rfl (hb hby d5_105) rfl ((if0 _ _).trans (teq ((lw_eq (f 9) (f 9)).mpr hc139)).2) k) ?_
  refine go _ (s₁.setTop (mkF m 109 #[.val (.ref a1), .val (.ref a2)] [(.int (1 : Int32))])) (fun t k => XS.iconst X0.here hx rfl (hb hby d5_108) k) ?_
  refine go _ (s₁.setTop (mkF m 113 #[.val (.ref a1), .val (.ref a2)] [(.int (1 : Int32))])) (fun t k => XS.goto X0.here hx rfl (pc0 := 109) (pc' := 113) rfl (hb hby d5_109) (by decide) (by decide) k) ?_
  exact fin (some (.int (1 : Int32))) X0 (by decide) (by decide) (fun q => by cases q) (show Q_rm5 Z a1 a2 f h0 n0 _ s₁.heap _ from (by rw [e0]; exact ⟨rfl, N0, rfl⟩)) (fun fs hr => retN X0 hx (t := .boolean) hret (by simp) (hb hby d5_113) hr)
theorem own_back (f g : Nat → Int64) (j : Nat) (hj : j < 10) : (f j - g j) + g j = f j := Int64.sub_add_cancel _ _
theorem ef_rm0 (m : MethodId) (q1 : Int64) (q2 : Int64) (q3 : Int64) (q4 : Int64) (q5 : Int64) (p1 : Int32) : entryFrame m #[(.long q1), (.long q2), (.long q3), (.long q4), (.long q5), (.int p1)] maxLocals = mkF m 0 #[.val (.long q1), .second, .val (.long q2), .second, .val (.long q3), .second, .val (.long q4), .second, .val (.long q5), .second, .val (.int p1), .unset, .unset, .unset, .unset, .unset, .unset, .unset] [] := by first | (simp [entryFrame, mkF, argsToLocals, Value.category, maxLocals]; done) | rfl
def Q_rm0 (Z : State) (q1 : Int64) (q2 : Int64) (q3 : Int64) (q4 : Int64) (q5 : Int64) (p1 : Int32) (h0 : Heap) (n0 : Nat) (v : Option Value) (h : Heap) (L : List Loc) : Prop := v = some (.int (1 : Int32)) ∧ Fr n0 L
set_option maxRecDepth 65536 in
set_option maxHeartbeats 40000000 in
theorem rm0 (l : Launch) (Z : State) (a0 : Array Value) (hw : ∀ d ∈ tables_1, d.before a0 Z = true) (ws : List Jvm.Cond) (q1 : Int64) (q2 : Int64) (q3 : Int64) (q4 : Int64) (q5 : Int64) (p1 : Int32) (h0 : Heap) (n0 : Nat) (Z0 : n0 ≤ h0.size)  :
    MetFree l x (head1 (Jvm.Cond.code x code maxLocals ret :: ws) room_1) (fun a U => a = #[(.long q1), (.long q2), (.long q3), (.long q4), (.long q5), (.int p1)] ∧ Z.Warmed39 U.vm ∧ U.heap = h0) (fun _ _ _ _ _ => True) (fun _ U o U' => ∃ v L, o = .returned v ∧ Q_rm0 Z q1 q2 q3 q4 q5 p1 h0 n0 v U'.heap L ∧ FrameEnd U o U' L room_1.cells room_1.slots) := by
  refine own_body (Q := Q_rm0 Z q1 q2 q3 q4 q5 p1 h0 n0) (plainFor_of_name pn_7) ?_
  intro p e s m below meth c s₁ K go fin X0 hx hby hml hown hnm hret hZ e0
  have hown : s.vm.findClass "com/example/withhold/withhold/crypto/Field25519SubtractPinLaw" = some m.cls := hown
  have N0 := Fr.nil n0
  refine go _ (s₁.setTop (mkF m 0 #[.val (.long q1), .second, .val (.long q2), .second, .val (.long q3), .second, .val (.long q4), .second, .val (.long q5), .second, .val (.int p1), .unset, .unset, .unset, .unset, .unset, .unset, .unset] [])) (fun t k => castTop (ef_rm0 m q1 q2 q3 q4 q5 p1) k) ?_
  refine go _ (s₁.setTop (mkF m 2 #[.val (.long q1), .second, .val (.long q2), .second, .val (.long q3), .second, .val (.long q4), .second, .val (.long q5), .second, .val (.int p1), .unset, .unset, .unset, .unset, .unset, .unset, .unset] [(.int p1)])) (fun t k => XS.iload X0.here hx rfl (hb hby at_0) rfl k) ?_
  refine go _ (s₁.setTop (mkF m 3 #[.val (.long q1), .second, .val (.long q2), .second, .val (.long q3), .second, .val (.long q4), .second, .val (.long q5), .second, .val (.int p1), .unset, .unset, .unset, .unset, .unset, .unset, .unset] [(.int (3 : Int32)), (.int p1)])) (fun t k => XS.iconst X0.here hx rfl (hb hby at_2) k) ?_
  refine go _ (s₁.setTop (mkF m 4 #[.val (.long q1), .second, .val (.long q2), .second, .val (.long q3), .second, .val (.long q4), .second, .val (.long q5), .second, .val (.int p1), .unset, .unset, .unset, .unset, .unset, .unset, .unset] [(.int (p1 &&& (3 : Int32)))])) (fun t k => XS.iand X0.here hx rfl (hb hby at_3) rfl k) ?_
  refine go _ (s₁.setTop (mkF m 6 #[.val (.long q1), .second, .val (.long q2), .second, .val (.long q3), .second, .val (.long q4), .second, .val (.long q5), .second, .val (.int p1), .val (.int (p1 &&& (3 : Int32))), .unset, .unset, .unset, .unset, .unset, .unset] [])) (fun t k => XS.istore X0.here hx rfl (hb hby at_4) rfl (l' := #[.val (.long q1), .second, .val (.long q2), .second, .val (.long q3), .second, .val (.long q4), .second, .val (.long q5), .second, .val (.int p1), .val (.int (p1 &&& (3 : Int32))), .unset, .unset, .unset, .unset, .unset, .unset]) rfl k) ?_
  refine go _ (s₁.setTop (mkF m 7 #[.val (.long q1), .second, .val (.long q2), .second, .val (.long q3), .second, .val (.long q4), .second, .val (.long q5), .second, .val (.int p1), .val (.int (p1 &&& (3 : Int32))), .unset, .unset, .unset, .unset, .unset, .unset] [(.long q1)])) (fun t k => XS.lloadN X0.here hx rfl (hb hby at_6) rfl k) ?_
  refine go _ (s₁.setTop (mkF m 9 #[.val (.long q1), .second, .val (.long q2), .second, .val (.long q3), .second, .val (.long q4), .second, .val (.long q5), .second, .val (.int p1), .val (.int (p1 &&& (3 : Int32))), .unset, .unset, .unset, .unset, .unset, .unset] [(.long q3), (.long q1)])) (fun t k => XS.lload X0.here hx rfl (hb hby at_7) rfl k) ?_
  obtain ⟨_, _, ⟨T140, L140, k140, n140⟩, -, X140, ⟨Lc140, hQ140, l140, y140, z140⟩, st140⟩ := Jvm.LawKit.callS X0 hx (y := (⟨"com/example/withhold/withhold/crypto/Field25519SubtractPinLaw", "fill", "(JJ)[J"⟩ : MethodName)) hown (mvT hZ (hw _ (List.mem_of_getElem? (i := 0) rfl))) (mvT hZ (hw _ (List.mem_of_getElem? (i := 1) rfl))) (mvT hZ (hw _ (List.mem_of_getElem? (i := 2) rfl))) (mvT hZ (hw _ (List.mem_of_getElem? (i := 3) rfl))) (by decide) (backOf (W := 0) (rm1 l Z a0 hw [] q1 q3  h0 n0 Z0 ) hZ (hw _ (List.mem_of_getElem? (i := 3) rfl)) (hw _ (List.mem_of_getElem? (i := 2) rfl)) (by decide) (by decide)) (g := (mkF m 9 #[.val (.long q1), .second, .val (.long q2), .second, .val (.long q3), .second, .val (.long q4), .second, .val (.long q5), .second, .val (.int p1), .val (.int (p1 &&& (3 : Int32))), .unset, .unset, .unset, .unset, .unset, .unset] [(.long q3), (.long q1)])) rfl (by rw [hml]; rfl) (argsL := [(.long q1), (.long q3)]) (rest := []) (lenOf pd_1 rfl) rfl (by show 2 * 0 + _ ≤ _; exact Nat.le_of_eq rfl) (hb hby at_9) (fun _ _ => ⟨rfl, e0, (by decide : 0 + 1 ≤ _), (by decide : 0 + 10 ≤ _)⟩)
  dsimp only [Pt.U, Pt.locs, Pt.cells, Pt.slots] at X140 l140 y140 z140 st140 hQ140
  subst l140 y140 z140
  obtain ⟨b140, rfl, Nq140, geq140, szq140, Kq140, gf140, Aq140⟩ := hQ140
  have N141 := Fr.app N0 Nq140
  have Z142 : n0 ≤ T140.heap.size := Nat.le_trans Z0 Kq140.1
  refine go _ (T140.setTop (mkF m 12 #[.val (.long q1), .second, .val (.long q2), .second, .val (.long q3), .second, .val (.long q4), .second, .val (.long q5), .second, .val (.int p1), .val (.int (p1 &&& (3 : Int32))), .unset, .unset, .unset, .unset, .unset, .unset] [(.ref b140)])) (st140) ?_
  refine go _ (T140.setTop (mkF m 14 #[.val (.long q1), .second, .val (.long q2), .second, .val (.long q3), .second, .val (.long q4), .second, .val (.long q5), .second, .val (.int p1), .val (.int (p1 &&& (3 : Int32))), .val (.ref b140), .unset, .unset, .unset, .unset, .unset] [])) (fun t k => XS.astore X140.here hx rfl (hb hby at_12) rfl rfl (l' := #[.val (.long q1), .second, .val (.long q2), .second, .val (.long q3), .second, .val (.long q4), .second, .val (.long q5), .second, .val (.int p1), .val (.int (p1 &&& (3 : Int32))), .val (.ref b140), .unset, .unset, .unset, .unset, .unset]) rfl k) ?_
  refine go _ (T140.setTop (mkF m 15 #[.val (.long q1), .second, .val (.long q2), .second, .val (.long q3), .second, .val (.long q4), .second, .val (.long q5), .second, .val (.int p1), .val (.int (p1 &&& (3 : Int32))), .val (.ref b140), .unset, .unset, .unset, .unset, .unset] [(.long q2)])) (fun t k => XS.lloadN X140.here hx rfl (hb hby at_14) rfl k) ?_
  refine go _ (T140.setTop (mkF m 17 #[.val (.long q1), .second, .val (.long q2), .second, .val (.long q3), .second, .val (.long q4), .second, .val (.long q5), .second, .val (.int p1), .val (.int (p1 &&& (3 : Int32))), .val (.ref b140), .unset, .unset, .unset, .unset, .unset] [(.long q4), (.long q2)])) (fun t k => XS.lload X140.here hx rfl (hb hby at_15) rfl k) ?_
  obtain ⟨_, _, ⟨T143, L143, k143, n143⟩, -, X143, ⟨Lc143, hQ143, l143, y143, z143⟩, st143⟩ := Jvm.LawKit.callS X140 hx (y := (⟨"com/example/withhold/withhold/crypto/Field25519SubtractPinLaw", "fill", "(JJ)[J"⟩ : MethodName)) hown (mvT hZ (hw _ (List.mem_of_getElem? (i := 0) rfl))) (mvT hZ (hw _ (List.mem_of_getElem? (i := 1) rfl))) (mvT hZ (hw _ (List.mem_of_getElem? (i := 2) rfl))) (mvT hZ (hw _ (List.mem_of_getElem? (i := 3) rfl))) (by decide) (backOf (W := 0) (rm1 l Z a0 hw [] q2 q4  T140.heap n0 Z142 ) hZ (hw _ (List.mem_of_getElem? (i := 3) rfl)) (hw _ (List.mem_of_getElem? (i := 2) rfl)) (by decide) (by decide)) (g := (mkF m 17 #[.val (.long q1), .second, .val (.long q2), .second, .val (.long q3), .second, .val (.long q4), .second, .val (.long q5), .second, .val (.int p1), .val (.int (p1 &&& (3 : Int32))), .val (.ref b140), .unset, .unset, .unset, .unset, .unset] [(.long q4), (.long q2)])) rfl (by rw [hml]; rfl) (argsL := [(.long q2), (.long q4)]) (rest := []) (lenOf pd_1 rfl) rfl (by show 2 * 0 + _ ≤ _; exact Nat.le_of_eq rfl) (hb hby at_17) (fun _ _ => ⟨rfl, rfl, (by decide : 0 + 1 + 1 ≤ _), (by decide : 0 + 10 + 10 ≤ _)⟩)
  dsimp only [Pt.U, Pt.locs, Pt.cells, Pt.slots] at X143 l143 y143 z143 st143 hQ143
  subst l143 y143 z143
  obtain ⟨b143, rfl, Nq143, geq143, szq143, Kq143, gf143, Aq143⟩ := hQ143
  have N144 := Fr.app N141 Nq143
  have Z145 : n0 ≤ T143.heap.size := Nat.le_trans Z142 Kq143.1
  have A146 := Aq140.keep Kq143 nin0
  have ne_b140_b143 : b140 ≠ b143 := Nat.ne_of_lt (Nat.lt_of_lt_of_le Aq140.lt szq143)
  refine go _ (T143.setTop (mkF m 20 #[.val (.long q1), .second, .val (.long q2), .second, .val (.long q3), .second, .val (.long q4), .second, .val (.long q5), .second, .val (.int p1), .val (.int (p1 &&& (3 : Int32))), .val (.ref b140), .unset, .unset, .unset, .unset, .unset] [(.ref b143)])) (st143) ?_
  refine go _ (T143.setTop (mkF m 22 #[.val (.long q1), .second, .val (.long q2), .second, .val (.long q3), .second, .val (.long q4), .second, .val (.long q5), .second, .val (.int p1), .val (.int (p1 &&& (3 : Int32))), .val (.ref b140), .val (.ref b143), .unset, .unset, .unset, .unset] [])) (fun t k => XS.astore X143.here hx rfl (hb hby at_20) rfl rfl (l' := #[.val (.long q1), .second, .val (.long q2), .second, .val (.long q3), .second, .val (.long q4), .second, .val (.long q5), .second, .val (.int p1), .val (.int (p1 &&& (3 : Int32))), .val (.ref b140), .val (.ref b143), .unset, .unset, .unset, .unset]) rfl k) ?_
  refine go _ (T143.setTop (mkF m 24 #[.val (.long q1), .second, .val (.long q2), .second, .val (.long q3), .second, .val (.long q4), .second, .val (.long q5), .second, .val (.int p1), .val (.int (p1 &&& (3 : Int32))), .val (.ref b140), .val (.ref b143), .unset, .unset, .unset, .unset] [(.int (p1 &&& (3 : Int32)))])) (fun t k => XS.iload X143.here hx rfl (hb hby at_22) rfl k) ?_
  refine go _ (T143.setTop (mkF m 25 #[.val (.long q1), .second, .val (.long q2), .second, .val (.long q3), .second, .val (.long q4), .second, .val (.long q5), .second, .val (.int p1), .val (.int (p1 &&& (3 : Int32))), .val (.ref b140), .val (.ref b143), .unset, .unset, .unset, .unset] [(.int (3 : Int32)), (.int (p1 &&& (3 : Int32)))])) (fun t k => XS.iconst X143.here hx rfl (hb hby at_24) k) ?_
  by_cases hc147 : (p1 &&& (3 : Int32)) = (3 : Int32)
  · refine go _ (T143.setTop (mkF m 28 #[.val (.long q1), .second, .val (.long q2), .second, .val (.long q3), .second, .val (.long q4), .second, .val (.long q5), .second, .val (.int p1), .val (.int (p1 &&& (3 : Int32))), .val (.ref b140), .val (.ref b143), .unset, .unset, .unset, .unset] [])) (fun t k => XS.icmpNo X143.here hx rfl (hb hby at_25) rfl (teq hc147).2 k) ?_
    refine go _ (T143.setTop (mkF m 30 #[.val (.long q1), .second, .val (.long q2), .second, .val (.long q3), .second, .val (.long q4), .second, .val (.long q5), .second, .val (.int p1), .val (.int (p1 &&& (3 : Int32))), .val (.ref b140), .val (.ref b143), .unset, .unset, .unset, .unset] [(.ref b140)])) (fun t k => XS.aload X143.here hx rfl (hb hby at_28) rfl rfl k) ?_
    refine go _ (T143.setTop (mkF m 32 #[.val (.long q1), .second, .val (.long q2), .second, .val (.long q3), .second, .val (.long q4), .second, .val (.long q5), .second, .val (.int p1), .val (.int (p1 &&& (3 : Int32))), .val (.ref b140), .val (.ref b140), .unset, .unset, .unset, .unset] [])) (fun t k => XS.astore X143.here hx rfl (hb hby at_30) rfl rfl (l' := #[.val (.long q1), .second, .val (.long q2), .second, .val (.long q3), .second, .val (.long q4), .second, .val (.long q5), .second, .val (.int p1), .val (.int (p1 &&& (3 : Int32))), .val (.ref b140), .val (.ref b140), .unset, .unset, .unset, .unset]) rfl k) ?_
    refine go _ (T143.setTop (mkF m 34 #[.val (.long q1), .second, .val (.long q2), .second, .val (.long q3), .second, .val (.long q4), .second, .val (.long q5), .second, .val (.int p1), .val (.int (p1 &&& (3 : Int32))), .val (.ref b140), .val (.ref b140), .unset, .unset, .unset, .unset] [(.ref b140)])) (fun t k => XS.aload X143.here hx rfl (hb hby at_32) rfl rfl k) ?_
    obtain ⟨_, _, ⟨T148, L148, k148, n148⟩, -, X148, ⟨Lc148, hQ148, l148, y148, z148⟩, st148⟩ := Jvm.LawKit.callS X143 hx (y := (⟨"com/example/withhold/withhold/crypto/Field25519SubtractPinLaw", "copy10", "([J)[J"⟩ : MethodName)) hown (mvT hZ (hw _ (List.mem_of_getElem? (i := 9) rfl))) (mvT hZ (hw _ (List.mem_of_getElem? (i := 10) rfl))) (mvT hZ (hw _ (List.mem_of_getElem? (i := 2) rfl))) (mvT hZ (hw _ (List.mem_of_getElem? (i := 11) rfl))) (by decide) (backOf (W := 0) (rm2 l Z a0 hw [] b140 gf140 T143.heap n0 Z145 A146) hZ (hw _ (List.mem_of_getElem? (i := 11) rfl)) (hw _ (List.mem_of_getElem? (i := 2) rfl)) (by decide) (by decide)) (g := (mkF m 34 #[.val (.long q1), .second, .val (.long q2), .second, .val (.long q3), .second, .val (.long q4), .second, .val (.long q5), .second, .val (.int p1), .val (.int (p1 &&& (3 : Int32))), .val (.ref b140), .val (.ref b140), .unset, .unset, .unset, .unset] [(.ref b140)])) rfl (by rw [hml]; rfl) (argsL := [(.ref b140)]) (rest := []) (lenOf pd_2 rfl) rfl (by show 2 * 0 + _ ≤ _; exact Nat.le_of_eq rfl) (hb hby at_34) (fun _ _ => ⟨rfl, rfl, (by decide : 0 + 1 + 1 + 1 ≤ _), (by decide : 0 + 10 + 10 + 10 ≤ _)⟩)
    dsimp only [Pt.U, Pt.locs, Pt.cells, Pt.slots] at X148 l148 y148 z148 st148 hQ148
    subst l148 y148 z148
    obtain ⟨b148, rfl, Nq148, geq148, szq148, Kq148, Aq148⟩ := hQ148
    have N149 := Fr.app N144 Nq148
    have Z150 : n0 ≤ T148.heap.size := Nat.le_trans Z145 Kq148.1
    have A151 := A146.keep Kq148 nin0
    have A152 := Aq143.keep Kq148 nin0
    have ne_b140_b148 : b140 ≠ b148 := Nat.ne_of_lt (Nat.lt_of_lt_of_le A146.lt szq148)
    have ne_b143_b148 : b143 ≠ b148 := Nat.ne_of_lt (Nat.lt_of_lt_of_le Aq143.lt szq148)
    refine go _ (T148.setTop (mkF m 37 #[.val (.long q1), .second, .val (.long q2), .second, .val (.long q3), .second, .val (.long q4), .second, .val (.long q5), .second, .val (.int p1), .val (.int (p1 &&& (3 : Int32))), .val (.ref b140), .val (.ref b140), .unset, .unset, .unset, .unset] [(.ref b148)])) (st148) ?_
    refine go _ (T148.setTop (mkF m 39 #[.val (.long q1), .second, .val (.long q2), .second, .val (.long q3), .second, .val (.long q4), .second, .val (.long q5), .second, .val (.int p1), .val (.int (p1 &&& (3 : Int32))), .val (.ref b140), .val (.ref b140), .val (.ref b148), .unset, .unset, .unset] [])) (fun t k => XS.astore X148.here hx rfl (hb hby at_37) rfl rfl (l' := #[.val (.long q1), .second, .val (.long q2), .second, .val (.long q3), .second, .val (.long q4), .second, .val (.long q5), .second, .val (.int p1), .val (.int (p1 &&& (3 : Int32))), .val (.ref b140), .val (.ref b140), .val (.ref b148), .unset, .unset, .unset]) rfl k) ?_
    refine go _ (T148.setTop (mkF m 41 #[.val (.long q1), .second, .val (.long q2), .second, .val (.long q3), .second, .val (.long q4), .second, .val (.long q5), .second, .val (.int p1), .val (.int (p1 &&& (3 : Int32))), .val (.ref b140), .val (.ref b140), .val (.ref b148), .unset, .unset, .unset] [(.ref b140)])) (fun t k => XS.aload X148.here hx rfl (hb hby at_39) rfl rfl k) ?_
    obtain ⟨_, _, ⟨T153, L153, k153, n153⟩, -, X153, ⟨Lc153, hQ153, l153, y153, z153⟩, st153⟩ := Jvm.LawKit.callS X148 hx (y := (⟨"com/example/withhold/withhold/crypto/Field25519SubtractPinLaw", "copy10", "([J)[J"⟩ : MethodName)) hown (mvT hZ (hw _ (List.mem_of_getElem? (i := 9) rfl))) (mvT hZ (hw _ (List.mem_of_getElem? (i := 10) rfl))) (mvT hZ (hw _ (List.mem_of_getElem? (i := 2) rfl))) (mvT hZ (hw _ (List.mem_of_getElem? (i := 11) rfl))) (by decide) (backOf (W := 0) (rm2 l Z a0 hw [] b140 gf140 T148.heap n0 Z150 A151) hZ (hw _ (List.mem_of_getElem? (i := 11) rfl)) (hw _ (List.mem_of_getElem? (i := 2) rfl)) (by decide) (by decide)) (g := (mkF m 41 #[.val (.long q1), .second, .val (.long q2), .second, .val (.long q3), .second, .val (.long q4), .second, .val (.long q5), .second, .val (.int p1), .val (.int (p1 &&& (3 : Int32))), .val (.ref b140), .val (.ref b140), .val (.ref b148), .unset, .unset, .unset] [(.ref b140)])) rfl (by rw [hml]; rfl) (argsL := [(.ref b140)]) (rest := []) (lenOf pd_2 rfl) rfl (by show 2 * 0 + _ ≤ _; exact Nat.le_of_eq rfl) (hb hby at_41) (fun _ _ => ⟨rfl, rfl, (by decide : 0 + 1 + 1 + 1 + 1 ≤ _), (by decide : 0 + 10 + 10 + 10 + 10 ≤ _)⟩)
    dsimp only [Pt.U, Pt.locs, Pt.cells, Pt.slots] at X153 l153 y153 z153 st153 hQ153
    subst l153 y153 z153
    obtain ⟨b153, rfl, Nq153, geq153, szq153, Kq153, Aq153⟩ := hQ153
    have N154 := Fr.app N149 Nq153
    have Z155 : n0 ≤ T153.heap.size := Nat.le_trans Z150 Kq153.1
    have A156 := A151.keep Kq153 nin0
    have A157 := A152.keep Kq153 nin0
    have A158 := Aq148.keep Kq153 nin0
    have ne_b140_b153 : b140 ≠ b153 := Nat.ne_of_lt (Nat.lt_of_lt_of_le A151.lt szq153)
    have ne_b143_b153 : b143 ≠ b153 := Nat.ne_of_lt (Nat.lt_of_lt_of_le A152.lt szq153)
    have ne_b148_b153 : b148 ≠ b153 := Nat.ne_of_lt (Nat.lt_of_lt_of_le Aq148.lt szq153)
    refine go _ (T153.setTop (mkF m 44 #[.val (.long q1), .second, .val (.long q2), .second, .val (.long q3), .second, .val (.long q4), .second, .val (.long q5), .second, .val (.int p1), .val (.int (p1 &&& (3 : Int32))), .val (.ref b140), .val (.ref b140), .val (.ref b148), .unset, .unset, .unset] [(.ref b153)])) (st153) ?_
    refine go _ (T153.setTop (mkF m 46 #[.val (.long q1), .second, .val (.long q2), .second, .val (.long q3), .second, .val (.long q4), .second, .val (.long q5), .second, .val (.int p1), .val (.int (p1 &&& (3 : Int32))), .val (.ref b140), .val (.ref b140), .val (.ref b148), .val (.ref b153), .unset, .unset] [])) (fun t k => XS.astore X153.here hx rfl (hb hby at_44) rfl rfl (l' := #[.val (.long q1), .second, .val (.long q2), .second, .val (.long q3), .second, .val (.long q4), .second, .val (.long q5), .second, .val (.int p1), .val (.int (p1 &&& (3 : Int32))), .val (.ref b140), .val (.ref b140), .val (.ref b148), .val (.ref b153), .unset, .unset]) rfl k) ?_
    refine go _ (T153.setTop (mkF m 48 #[.val (.long q1), .second, .val (.long q2), .second, .val (.long q3), .second, .val (.long q4), .second, .val (.long q5), .second, .val (.int p1), .val (.int (p1 &&& (3 : Int32))), .val (.ref b140), .val (.ref b140), .val (.ref b148), .val (.ref b153), .unset, .unset] [(.int (p1 &&& (3 : Int32)))])) (fun t k => XS.iload X153.here hx rfl (hb hby at_46) rfl k) ?_
    refine go _ (T153.setTop (mkF m 49 #[.val (.long q1), .second, .val (.long q2), .second, .val (.long q3), .second, .val (.long q4), .second, .val (.long q5), .second, .val (.int p1), .val (.int (p1 &&& (3 : Int32))), .val (.ref b140), .val (.ref b140), .val (.ref b148), .val (.ref b153), .unset, .unset] [(.int (1 : Int32)), (.int (p1 &&& (3 : Int32)))])) (fun t k => XS.iconst X153.here hx rfl (hb hby at_48) k) ?_
    have hc159 : ¬ ((p1 &&& (3 : Int32)) = (1 : Int32)) := (by rw [hc147]; decide)
    refine go _ (T153.setTop (mkF m 59 #[.val (.long q1), .second, .val (.long q2), .second, .val (.long q3), .second, .val (.long q4), .second, .val (.long q5), .second, .val (.int p1), .val (.int (p1 &&& (3 : Int32))), .val (.ref b140), .val (.ref b140), .val (.ref b148), .val (.ref b153), .unset, .unset] [])) (fun t k => XS.icmpYes X153.here hx rfl (pc0 := 49) (pc' := 59) rfl (hb hby at_49) rfl (feq hc159).2 (by decide) (by decide) k) ?_
    refine go _ (T153.setTop (mkF m 61 #[.val (.long q1), .second, .val (.long q2), .second, .val (.long q3), .second, .val (.long q4), .second, .val (.long q5), .second, .val (.int p1), .val (.int (p1 &&& (3 : Int32))), .val (.ref b140), .val (.ref b140), .val (.ref b148), .val (.ref b153), .unset, .unset] [(.int (p1 &&& (3 : Int32)))])) (fun t k => XS.iload X153.here hx rfl (hb hby at_59) rfl k) ?_
    refine go _ (T153.setTop (mkF m 62 #[.val (.long q1), .second, .val (.long q2), .second, .val (.long q3), .second, .val (.long q4), .second, .val (.long q5), .second, .val (.int p1), .val (.int (p1 &&& (3 : Int32))), .val (.ref b140), .val (.ref b140), .val (.ref b148), .val (.ref b153), .unset, .unset] [(.int (2 : Int32)), (.int (p1 &&& (3 : Int32)))])) (fun t k => XS.iconst X153.here hx rfl (hb hby at_61) k) ?_
    have hc160 : ¬ ((p1 &&& (3 : Int32)) = (2 : Int32)) := (by rw [hc147]; decide)
    refine go _ (T153.setTop (mkF m 72 #[.val (.long q1), .second, .val (.long q2), .second, .val (.long q3), .second, .val (.long q4), .second, .val (.long q5), .second, .val (.int p1), .val (.int (p1 &&& (3 : Int32))), .val (.ref b140), .val (.ref b140), .val (.ref b148), .val (.ref b153), .unset, .unset] [])) (fun t k => XS.icmpYes X153.here hx rfl (pc0 := 62) (pc' := 72) rfl (hb hby at_62) rfl (feq hc160).2 (by decide) (by decide) k) ?_
    refine go _ (T153.setTop (mkF m 74 #[.val (.long q1), .second, .val (.long q2), .second, .val (.long q3), .second, .val (.long q4), .second, .val (.long q5), .second, .val (.int p1), .val (.int (p1 &&& (3 : Int32))), .val (.ref b140), .val (.ref b140), .val (.ref b148), .val (.ref b153), .unset, .unset] [(.long q5)])) (fun t k => XS.lload X153.here hx rfl (hb hby at_72) rfl k) ?_
    refine go _ (T153.setTop (mkF m 76 #[.val (.long q1), .second, .val (.long q2), .second, .val (.long q3), .second, .val (.long q4), .second, .val (.long q5), .second, .val (.int p1), .val (.int (p1 &&& (3 : Int32))), .val (.ref b140), .val (.ref b140), .val (.ref b148), .val (.ref b153), .unset, .unset] [(.long q5), (.long q5)])) (fun t k => XS.lload X153.here hx rfl (hb hby at_74) rfl k) ?_
    refine go _ (T153.setTop (mkF m 79 #[.val (.long q1), .second, .val (.long q2), .second, .val (.long q3), .second, .val (.long q4), .second, .val (.long q5), .second, .val (.int p1), .val (.int (p1 &&& (3 : Int32))), .val (.ref b140), .val (.ref b140), .val (.ref b148), .val (.ref b153), .unset, .unset] [(.long (-1 : Int64)), (.long q5), (.long q5)])) (X153.ldc2Long hx hown (mvT hZ (hw _ (List.mem_of_getElem? (i := 7) rfl))) (g := (mkF m 76 #[.val (.long q1), .second, .val (.long q2), .second, .val (.long q3), .second, .val (.long q4), .second, .val (.long q5), .second, .val (.int p1), .val (.int (p1 &&& (3 : Int32))), .val (.ref b140), .val (.ref b140), .val (.ref b148), .val (.ref b153), .unset, .unset] [(.long q5), (.long q5)])) rfl (hb hby at_76)) ?_
    refine go _ (T153.setTop (mkF m 80 #[.val (.long q1), .second, .val (.long q2), .second, .val (.long q3), .second, .val (.long q4), .second, .val (.long q5), .second, .val (.int p1), .val (.int (p1 &&& (3 : Int32))), .val (.ref b140), .val (.ref b140), .val (.ref b148), .val (.ref b153), .unset, .unset] [(.long (q5 ^^^ (-1 : Int64))), (.long q5)])) (fun t k => XS.lxor X153.here hx rfl (hb hby at_79) rfl k) ?_
    obtain ⟨_, _, ⟨T161, L161, k161, n161⟩, -, X161, ⟨Lc161, hQ161, l161, y161, z161⟩, st161⟩ := Jvm.LawKit.callS X153 hx (y := (⟨"com/example/withhold/withhold/crypto/Field25519SubtractPinLaw", "fill", "(JJ)[J"⟩ : MethodName)) hown (mvT hZ (hw _ (List.mem_of_getElem? (i := 0) rfl))) (mvT hZ (hw _ (List.mem_of_getElem? (i := 1) rfl))) (mvT hZ (hw _ (List.mem_of_getElem? (i := 2) rfl))) (mvT hZ (hw _ (List.mem_of_getElem? (i := 3) rfl))) (by decide) (backOf (W := 0) (rm1 l Z a0 hw [] q5 (q5 ^^^ (-1 : Int64))  T153.heap n0 Z155 ) hZ (hw _ (List.mem_of_getElem? (i := 3) rfl)) (hw _ (List.mem_of_getElem? (i := 2) rfl)) (by decide) (by decide)) (g := (mkF m 80 #[.val (.long q1), .second, .val (.long q2), .second, .val (.long q3), .second, .val (.long q4), .second, .val (.long q5), .second, .val (.int p1), .val (.int (p1 &&& (3 : Int32))), .val (.ref b140), .val (.ref b140), .val (.ref b148), .val (.ref b153), .unset, .unset] [(.long (q5 ^^^ (-1 : Int64))), (.long q5)])) rfl (by rw [hml]; rfl) (argsL := [(.long q5), (.long (q5 ^^^ (-1 : Int64)))]) (rest := []) (lenOf pd_1 rfl) rfl (by show 2 * 0 + _ ≤ _; exact Nat.le_of_eq rfl) (hb hby at_80) (fun _ _ => ⟨rfl, rfl, (by decide : 0 + 1 + 1 + 1 + 1 + 1 ≤ _), (by decide : 0 + 10 + 10 + 10 + 10 + 10 ≤ _)⟩)
    dsimp only [Pt.U, Pt.locs, Pt.cells, Pt.slots] at X161 l161 y161 z161 st161 hQ161
    subst l161 y161 z161
    obtain ⟨b161, rfl, Nq161, geq161, szq161, Kq161, gf161, Aq161⟩ := hQ161
    have N162 := Fr.app N154 Nq161
    have Z163 : n0 ≤ T161.heap.size := Nat.le_trans Z155 Kq161.1
    have A164 := A156.keep Kq161 nin0
    have A165 := A157.keep Kq161 nin0
    have A166 := A158.keep Kq161 nin0
    have A167 := Aq153.keep Kq161 nin0
    have ne_b140_b161 : b140 ≠ b161 := Nat.ne_of_lt (Nat.lt_of_lt_of_le A156.lt szq161)
    have ne_b143_b161 : b143 ≠ b161 := Nat.ne_of_lt (Nat.lt_of_lt_of_le A157.lt szq161)
    have ne_b148_b161 : b148 ≠ b161 := Nat.ne_of_lt (Nat.lt_of_lt_of_le A158.lt szq161)
    have ne_b153_b161 : b153 ≠ b161 := Nat.ne_of_lt (Nat.lt_of_lt_of_le Aq153.lt szq161)
    refine go _ (T161.setTop (mkF m 83 #[.val (.long q1), .second, .val (.long q2), .second, .val (.long q3), .second, .val (.long q4), .second, .val (.long q5), .second, .val (.int p1), .val (.int (p1 &&& (3 : Int32))), .val (.ref b140), .val (.ref b140), .val (.ref b148), .val (.ref b153), .unset, .unset] [(.ref b161)])) (st161) ?_
    refine go _ (T161.setTop (mkF m 85 #[.val (.long q1), .second, .val (.long q2), .second, .val (.long q3), .second, .val (.long q4), .second, .val (.long q5), .second, .val (.int p1), .val (.int (p1 &&& (3 : Int32))), .val (.ref b140), .val (.ref b140), .val (.ref b148), .val (.ref b153), .val (.ref b161), .unset] [])) (fun t k => XS.astore X161.here hx rfl (hb hby at_83) rfl rfl (l' := #[.val (.long q1), .second, .val (.long q2), .second, .val (.long q3), .second, .val (.long q4), .second, .val (.long q5), .second, .val (.int p1), .val (.int (p1 &&& (3 : Int32))), .val (.ref b140), .val (.ref b140), .val (.ref b148), .val (.ref b153), .val (.ref b161), .unset]) rfl k) ?_
    refine go _ (T161.setTop (mkF m 87 #[.val (.long q1), .second, .val (.long q2), .second, .val (.long q3), .second, .val (.long q4), .second, .val (.long q5), .second, .val (.int p1), .val (.int (p1 &&& (3 : Int32))), .val (.ref b140), .val (.ref b140), .val (.ref b148), .val (.ref b153), .val (.ref b161), .unset] [(.ref b161)])) (fun t k => XS.aload X161.here hx rfl (hb hby at_85) rfl rfl k) ?_
    refine go _ (T161.setTop (mkF m 89 #[.val (.long q1), .second, .val (.long q2), .second, .val (.long q3), .second, .val (.long q4), .second, .val (.long q5), .second, .val (.int p1), .val (.int (p1 &&& (3 : Int32))), .val (.ref b140), .val (.ref b140), .val (.ref b148), .val (.ref b153), .val (.ref b161), .unset] [(.ref b140), (.ref b161)])) (fun t k => XS.aload X161.here hx rfl (hb hby at_87) rfl rfl k) ?_
    refine go _ (T161.setTop (mkF m 91 #[.val (.long q1), .second, .val (.long q2), .second, .val (.long q3), .second, .val (.long q4), .second, .val (.long q5), .second, .val (.int p1), .val (.int (p1 &&& (3 : Int32))), .val (.ref b140), .val (.ref b140), .val (.ref b148), .val (.ref b153), .val (.ref b161), .unset] [(.ref b140), (.ref b140), (.ref b161)])) (fun t k => XS.aload X161.here hx rfl (hb hby at_89) rfl rfl k) ?_
    obtain ⟨_, _, ⟨T168, L168, k168, n168⟩, -, X168, ⟨Lc168, hQ168, l168, y168, z168⟩, st168⟩ := Jvm.LawKit.callS X161 hx (y := (⟨"com/example/withhold/withhold/crypto/Field25519", "subtract", "([J[J[J)V"⟩ : MethodName)) hown (mvT hZ (hw _ (List.mem_of_getElem? (i := 12) rfl))) (mvT hZ (hw _ (List.mem_of_getElem? (i := 13) rfl))) (mvT hZ (hw _ (List.mem_of_getElem? (i := 14) rfl))) (mvT hZ (hw _ (List.mem_of_getElem? (i := 15) rfl))) (by decide) (backOf (W := 0) (rm3d l Z a0 hw [] b161 b140 b140 gf140 gf140 gf161 T161.heap n0 Z163 Aq161 A164 A164 geq161 ne_b140_b161 ne_b140_b161) hZ (hw _ (List.mem_of_getElem? (i := 15) rfl)) (hw _ (List.mem_of_getElem? (i := 14) rfl)) (by decide) (by decide)) (g := (mkF m 91 #[.val (.long q1), .second, .val (.long q2), .second, .val (.long q3), .second, .val (.long q4), .second, .val (.long q5), .second, .val (.int p1), .val (.int (p1 &&& (3 : Int32))), .val (.ref b140), .val (.ref b140), .val (.ref b148), .val (.ref b153), .val (.ref b161), .unset] [(.ref b140), (.ref b140), (.ref b161)])) rfl (by rw [hml]; rfl) (argsL := [(.ref b161), (.ref b140), (.ref b140)]) (rest := []) (lenOf pd_3 rfl) rfl (by show 2 * 0 + _ ≤ _; exact Nat.le_of_eq rfl) (hb hby at_91) (fun _ _ => ⟨rfl, rfl, (by decide : 0 + 1 + 1 + 1 + 1 + 1 + 0 ≤ _), (by decide : 0 + 10 + 10 + 10 + 10 + 10 + 0 ≤ _)⟩)
    dsimp only [Pt.U, Pt.locs, Pt.cells, Pt.slots] at X168 l168 y168 z168 st168 hQ168
    subst l168 y168 z168
    obtain ⟨rfl, Nq168, Kq168, Aq168⟩ := hQ168
    have N169 := Fr.app N162 Nq168
    have Z170 : n0 ≤ T168.heap.size := Nat.le_trans Z163 Kq168.1
    have A171 := A164.keep Kq168 (ninS ne_b140_b161 nin0)
    have A172 := A165.keep Kq168 (ninS ne_b143_b161 nin0)
    have A173 := A166.keep Kq168 (ninS ne_b148_b161 nin0)
    have A174 := A167.keep Kq168 (ninS ne_b153_b161 nin0)
    refine go _ (T168.setTop (mkF m 94 #[.val (.long q1), .second, .val (.long q2), .second, .val (.long q3), .second, .val (.long q4), .second, .val (.long q5), .second, .val (.int p1), .val (.int (p1 &&& (3 : Int32))), .val (.ref b140), .val (.ref b140), .val (.ref b148), .val (.ref b153), .val (.ref b161), .unset] [])) (st168) ?_
    refine go _ (T168.setTop (mkF m 96 #[.val (.long q1), .second, .val (.long q2), .second, .val (.long q3), .second, .val (.long q4), .second, .val (.long q5), .second, .val (.int p1), .val (.int (p1 &&& (3 : Int32))), .val (.ref b140), .val (.ref b140), .val (.ref b148), .val (.ref b153), .val (.ref b161), .unset] [(.ref b161)])) (fun t k => XS.aload X168.here hx rfl (hb hby at_94) rfl rfl k) ?_
    refine go _ (T168.setTop (mkF m 98 #[.val (.long q1), .second, .val (.long q2), .second, .val (.long q3), .second, .val (.long q4), .second, .val (.long q5), .second, .val (.int p1), .val (.int (p1 &&& (3 : Int32))), .val (.ref b140), .val (.ref b140), .val (.ref b148), .val (.ref b153), .val (.ref b161), .unset] [(.ref b153), (.ref b161)])) (fun t k => XS.aload X168.here hx rfl (hb hby at_96) rfl rfl k) ?_
    refine go _ (T168.setTop (mkF m 100 #[.val (.long q1), .second, .val (.long q2), .second, .val (.long q3), .second, .val (.long q4), .second, .val (.long q5), .second, .val (.int p1), .val (.int (p1 &&& (3 : Int32))), .val (.ref b140), .val (.ref b140), .val (.ref b148), .val (.ref b153), .val (.ref b161), .unset] [(.ref b148), (.ref b153), (.ref b161)])) (fun t k => XS.aload X168.here hx rfl (hb hby at_98) rfl rfl k) ?_
    obtain ⟨_, _, ⟨T175, L175, k175, n175⟩, -, X175, ⟨Lc175, hQ175, l175, y175, z175⟩, st175⟩ := Jvm.LawKit.callS X168 hx (y := (⟨"com/example/withhold/withhold/crypto/Field25519SubtractPinLaw", "backToF", "([J[J[J)Z"⟩ : MethodName)) hown (mvT hZ (hw _ (List.mem_of_getElem? (i := 16) rfl))) (mvT hZ (hw _ (List.mem_of_getElem? (i := 17) rfl))) (mvT hZ (hw _ (List.mem_of_getElem? (i := 2) rfl))) (mvT hZ (hw _ (List.mem_of_getElem? (i := 18) rfl))) (by decide) (backOf (W := 0) (rm4 l Z a0 hw [] b161 b153 b148 _ gf140 gf140 T168.heap n0 Z170 Aq168 A174 A173 (own_back gf140 gf140)) hZ (hw _ (List.mem_of_getElem? (i := 18) rfl)) (hw _ (List.mem_of_getElem? (i := 2) rfl)) (by decide) (by decide)) (g := (mkF m 100 #[.val (.long q1), .second, .val (.long q2), .second, .val (.long q3), .second, .val (.long q4), .second, .val (.long q5), .second, .val (.int p1), .val (.int (p1 &&& (3 : Int32))), .val (.ref b140), .val (.ref b140), .val (.ref b148), .val (.ref b153), .val (.ref b161), .unset] [(.ref b148), (.ref b153), (.ref b161)])) rfl (by rw [hml]; rfl) (argsL := [(.ref b161), (.ref b153), (.ref b148)]) (rest := []) (lenOf pd_4 rfl) rfl (by show 2 * 0 + _ ≤ _; exact Nat.le_of_eq rfl) (hb hby at_100) (fun _ _ => ⟨rfl, rfl, (by decide : 0 + 1 + 1 + 1 + 1 + 1 + 0 ≤ _), (by decide : 0 + 10 + 10 + 10 + 10 + 10 + 0 ≤ _)⟩)
    dsimp only [Pt.U, Pt.locs, Pt.cells, Pt.slots] at X175 l175 y175 z175 st175 hQ175
    subst l175 y175 z175
    obtain ⟨rfl, Nq175, hh175⟩ := hQ175
    have N176 := Fr.app N169 Nq175
    refine go _ (T175.setTop (mkF m 103 #[.val (.long q1), .second, .val (.long q2), .second, .val (.long q3), .second, .val (.long q4), .second, .val (.long q5), .second, .val (.int p1), .val (.int (p1 &&& (3 : Int32))), .val (.ref b140), .val (.ref b140), .val (.ref b148), .val (.ref b153), .val (.ref b161), .unset] [(.int (1 : Int32))])) (st175) ?_
    refine go _ (T175.setTop (mkF m 105 #[.val (.long q1), .second, .val (.long q2), .second, .val (.long q3), .second, .val (.long q4), .second, .val (.long q5), .second, .val (.int p1), .val (.int (p1 &&& (3 : Int32))), .val (.ref b140), .val (.ref b140), .val (.ref b148), .val (.ref b153), .val (.ref b161), .val (.int (1 : Int32))] [])) (fun t k => XS.istore X175.here hx rfl (hb hby at_103) rfl (l' := #[.val (.long q1), .second, .val (.long q2), .second, .val (.long q3), .second, .val (.long q4), .second, .val (.long q5), .second, .val (.int p1), .val (.int (p1 &&& (3 : Int32))), .val (.ref b140), .val (.ref b140), .val (.ref b148), .val (.ref b153), .val (.ref b161), .val (.int (1 : Int32))]) rfl k) ?_
    refine go _ (T175.setTop (mkF m 107 #[.val (.long q1), .second, .val (.long q2), .second, .val (.long q3), .second, .val (.long q4), .second, .val (.long q5), .second, .val (.int p1), .val (.int (p1 &&& (3 : Int32))), .val (.ref b140), .val (.ref b140), .val (.ref b148), .val (.ref b153), .val (.ref b161), .val (.int (1 : Int32))] [(.ref b161)])) (fun t k => XS.aload X175.here hx rfl (hb hby at_105) rfl rfl k) ?_
    refine go _ (T175.setTop (mkF m 109 #[.val (.long q1), .second, .val (.long q2), .second, .val (.long q3), .second, .val (.long q4), .second, .val (.long q5), .second, .val (.int p1), .val (.int (p1 &&& (3 : Int32))), .val (.ref b140), .val (.ref b140), .val (.ref b148), .val (.ref b153), .val (.ref b161), .val (.int (1 : Int32))] [(.ref b140), (.ref b161)])) (fun t k => XS.aload X175.here hx rfl (hb hby at_107) rfl rfl k) ?_
    refine go _ (T175.setTop (mkF m 112 #[.val (.long q1), .second, .val (.long q2), .second, .val (.long q3), .second, .val (.long q4), .second, .val (.long q5), .second, .val (.int p1), .val (.int (p1 &&& (3 : Int32))), .val (.ref b140), .val (.ref b140), .val (.ref b148), .val (.ref b153), .val (.ref b161), .val (.int (1 : Int32))] [])) (fun t k => Jvm.RoadKit.acmp (g := (mkF m 109 #[.val (.long q1), .second, .val (.long q2), .second, .val (.long q3), .second, .val (.long q4), .second, .val (.long q5), .second, .val (.int p1), .val (.int (p1 &&& (3 : Int32))), .val (.ref b140), .val (.ref b140), .val (.ref b148), .val (.ref b153), .val (.ref b161), .val (.int (1 : Int32))] [(.ref b140), (.ref b161)])) X175 hx rfl rfl rfl (pc0 := 109) (pc' := 112) (same := false) rfl (hb hby at_109) rfl (decide_eq_false fun q => (Ne.symm ne_b140_b161) (Value.ref.inj q)) (by decide) (by decide) k) ?_
    refine go _ (T175.setTop (mkF m 114 #[.val (.long q1), .second, .val (.long q2), .second, .val (.long q3), .second, .val (.long q4), .second, .val (.long q5), .second, .val (.int p1), .val (.int (p1 &&& (3 : Int32))), .val (.ref b140), .val (.ref b140), .val (.ref b148), .val (.ref b153), .val (.ref b161), .val (.int (1 : Int32))] [(.int (1 : Int32))])) (fun t k => XS.iload X175.here hx rfl (hb hby at_112) rfl k) ?_
    have hc177 : ¬ ((1 : Int32) = (0 : Int32)) := by decide
    refine go _ (T175.setTop (mkF m 117 #[.val (.long q1), .second, .val (.long q2), .second, .val (.long q3), .second, .val (.long q4), .second, .val (.long q5), .second, .val (.int p1), .val (.int (p1 &&& (3 : Int32))), .val (.ref b140), .val (.ref b140), .val (.ref b148), .val (.ref b153), .val (.ref b161), .val (.int (1 : Int32))] [])) (fun t k => XS.ifNo X175.here hx rfl (hb hby at_114) rfl ((if0 _ _).trans (feq hc177).1) k) ?_
    refine go _ (T175.setTop (mkF m 119 #[.val (.long q1), .second, .val (.long q2), .second, .val (.long q3), .second, .val (.long q4), .second, .val (.long q5), .second, .val (.int p1), .val (.int (p1 &&& (3 : Int32))), .val (.ref b140), .val (.ref b140), .val (.ref b148), .val (.ref b153), .val (.ref b161), .val (.int (1 : Int32))] [(.ref b140)])) (fun t k => XS.aload X175.here hx rfl (hb hby at_117) rfl rfl k) ?_
    refine go _ (T175.setTop (mkF m 121 #[.val (.long q1), .second, .val (.long q2), .second, .val (.long q3), .second, .val (.long q4), .second, .val (.long q5), .second, .val (.int p1), .val (.int (p1 &&& (3 : Int32))), .val (.ref b140), .val (.ref b140), .val (.ref b148), .val (.ref b153), .val (.ref b161), .val (.int (1 : Int32))] [(.ref b148), (.ref b140)])) (fun t k => XS.aload X175.here hx rfl (hb hby at_119) rfl rfl k) ?_
    obtain ⟨_, _, ⟨T178, L178, k178, n178⟩, -, X178, ⟨Lc178, hQ178, l178, y178, z178⟩, st178⟩ := Jvm.LawKit.callS X175 hx (y := (⟨"com/example/withhold/withhold/crypto/Field25519SubtractPinLaw", "same10", "([J[J)Z"⟩ : MethodName)) hown (mvT hZ (hw _ (List.mem_of_getElem? (i := 19) rfl))) (mvT hZ (hw _ (List.mem_of_getElem? (i := 20) rfl))) (mvT hZ (hw _ (List.mem_of_getElem? (i := 2) rfl))) (mvT hZ (hw _ (List.mem_of_getElem? (i := 21) rfl))) (by decide) (backOf (W := 0) (rm5 l Z a0 hw [] b140 b148 gf140 T168.heap n0 Z170 A171 A173) hZ (hw _ (List.mem_of_getElem? (i := 21) rfl)) (hw _ (List.mem_of_getElem? (i := 2) rfl)) (by decide) (by decide)) (g := (mkF m 121 #[.val (.long q1), .second, .val (.long q2), .second, .val (.long q3), .second, .val (.long q4), .second, .val (.long q5), .second, .val (.int p1), .val (.int (p1 &&& (3 : Int32))), .val (.ref b140), .val (.ref b140), .val (.ref b148), .val (.ref b153), .val (.ref b161), .val (.int (1 : Int32))] [(.ref b148), (.ref b140)])) rfl (by rw [hml]; rfl) (argsL := [(.ref b140), (.ref b148)]) (rest := []) (lenOf pd_5 rfl) rfl (by show 2 * 0 + _ ≤ _; exact Nat.le_of_eq rfl) (hb hby at_121) (fun _ _ => ⟨rfl, hh175, (by decide : 0 + 1 + 1 + 1 + 1 + 1 + 0 ≤ _), (by decide : 0 + 10 + 10 + 10 + 10 + 10 + 0 ≤ _)⟩)
    dsimp only [Pt.U, Pt.locs, Pt.cells, Pt.slots] at X178 l178 y178 z178 st178 hQ178
    subst l178 y178 z178
    obtain ⟨rfl, Nq178, hh178⟩ := hQ178
    have N179 := Fr.app N176 Nq178
    refine go _ (T178.setTop (mkF m 124 #[.val (.long q1), .second, .val (.long q2), .second, .val (.long q3), .second, .val (.long q4), .second, .val (.long q5), .second, .val (.int p1), .val (.int (p1 &&& (3 : Int32))), .val (.ref b140), .val (.ref b140), .val (.ref b148), .val (.ref b153), .val (.ref b161), .val (.int (1 : Int32))] [(.int (1 : Int32))])) (st178) ?_
    have hc180 : ¬ ((1 : Int32) = (0 : Int32)) := by decide
    refine go _ (T178.setTop (mkF m 127 #[.val (.long q1), .second, .val (.long q2), .second, .val (.long q3), .second, .val (.long q4), .second, .val (.long q5), .second, .val (.int p1), .val (.int (p1 &&& (3 : Int32))), .val (.ref b140), .val (.ref b140), .val (.ref b148), .val (.ref b153), .val (.ref b161), .val (.int (1 : Int32))] [])) (fun t k => XS.ifNo X178.here hx rfl (hb hby at_124) rfl ((if0 _ _).trans (feq hc180).1) k) ?_
    refine go _ (T178.setTop (mkF m 128 #[.val (.long q1), .second, .val (.long q2), .second, .val (.long q3), .second, .val (.long q4), .second, .val (.long q5), .second, .val (.int p1), .val (.int (p1 &&& (3 : Int32))), .val (.ref b140), .val (.ref b140), .val (.ref b148), .val (.ref b153), .val (.ref b161), .val (.int (1 : Int32))] [(.int (1 : Int32))])) (fun t k => XS.iconst X178.here hx rfl (hb hby at_127) k) ?_
    refine go _ (T178.setTop (mkF m 132 #[.val (.long q1), .second, .val (.long q2), .second, .val (.long q3), .second, .val (.long q4), .second, .val (.long q5), .second, .val (.int p1), .val (.int (p1 &&& (3 : Int32))), .val (.ref b140), .val (.ref b140), .val (.ref b148), .val (.ref b153), .val (.ref b161), .val (.int (1 : Int32))] [(.int (1 : Int32))])) (fun t k => XS.goto X178.here hx rfl (pc0 := 128) (pc' := 132) rfl (hb hby at_128) (by decide) (by decide) k) ?_
    refine go _ (T178.setTop (mkF m 134 #[.val (.long q1), .second, .val (.long q2), .second, .val (.long q3), .second, .val (.long q4), .second, .val (.long q5), .second, .val (.int p1), .val (.int (p1 &&& (3 : Int32))), .val (.ref b140), .val (.ref b140), .val (.ref b148), .val (.ref b153), .val (.ref b161), .val (.int (1 : Int32))] [])) (fun t k => XS.istore X178.here hx rfl (hb hby at_132) rfl (l' := #[.val (.long q1), .second, .val (.long q2), .second, .val (.long q3), .second, .val (.long q4), .second, .val (.long q5), .second, .val (.int p1), .val (.int (p1 &&& (3 : Int32))), .val (.ref b140), .val (.ref b140), .val (.ref b148), .val (.ref b153), .val (.ref b161), .val (.int (1 : Int32))]) rfl k) ?_
    refine go _ (T178.setTop (mkF m 136 #[.val (.long q1), .second, .val (.long q2), .second, .val (.long q3), .second, .val (.long q4), .second, .val (.long q5), .second, .val (.int p1), .val (.int (p1 &&& (3 : Int32))), .val (.ref b140), .val (.ref b140), .val (.ref b148), .val (.ref b153), .val (.ref b161), .val (.int (1 : Int32))] [(.ref b161)])) (fun t k => XS.aload X178.here hx rfl (hb hby at_134) rfl rfl k) ?_
    refine go _ (T178.setTop (mkF m 138 #[.val (.long q1), .second, .val (.long q2), .second, .val (.long q3), .second, .val (.long q4), .second, .val (.long q5), .second, .val (.int p1), .val (.int (p1 &&& (3 : Int32))), .val (.ref b140), .val (.ref b140), .val (.ref b148), .val (.ref b153), .val (.ref b161), .val (.int (1 : Int32))] [(.ref b140), (.ref b161)])) (fun t k => XS.aload X178.here hx rfl (hb hby at_136) rfl rfl k) ?_
    refine go _ (T178.setTop (mkF m 141 #[.val (.long q1), .second, .val (.long q2), .second, .val (.long q3), .second, .val (.long q4), .second, .val (.long q5), .second, .val (.int p1), .val (.int (p1 &&& (3 : Int32))), .val (.ref b140), .val (.ref b140), .val (.ref b148), .val (.ref b153), .val (.ref b161), .val (.int (1 : Int32))] [])) (fun t k => Jvm.RoadKit.acmp (g := (mkF m 138 #[.val (.long q1), .second, .val (.long q2), .second, .val (.long q3), .second, .val (.long q4), .second, .val (.long q5), .second, .val (.int p1), .val (.int (p1 &&& (3 : Int32))), .val (.ref b140), .val (.ref b140), .val (.ref b148), .val (.ref b153), .val (.ref b161), .val (.int (1 : Int32))] [(.ref b140), (.ref b161)])) X178 hx rfl rfl rfl (pc0 := 138) (pc' := 141) (same := false) rfl (hb hby at_138) rfl (decide_eq_false fun q => (Ne.symm ne_b140_b161) (Value.ref.inj q)) (by decide) (by decide) k) ?_
    refine go _ (T178.setTop (mkF m 143 #[.val (.long q1), .second, .val (.long q2), .second, .val (.long q3), .second, .val (.long q4), .second, .val (.long q5), .second, .val (.int p1), .val (.int (p1 &&& (3 : Int32))), .val (.ref b140), .val (.ref b140), .val (.ref b148), .val (.ref b153), .val (.ref b161), .val (.int (1 : Int32))] [(.int (1 : Int32))])) (fun t k => XS.iload X178.here hx rfl (hb hby at_141) rfl k) ?_
    have hc181 : ¬ ((1 : Int32) = (0 : Int32)) := by decide
    refine go _ (T178.setTop (mkF m 146 #[.val (.long q1), .second, .val (.long q2), .second, .val (.long q3), .second, .val (.long q4), .second, .val (.long q5), .second, .val (.int p1), .val (.int (p1 &&& (3 : Int32))), .val (.ref b140), .val (.ref b140), .val (.ref b148), .val (.ref b153), .val (.ref b161), .val (.int (1 : Int32))] [])) (fun t k => XS.ifNo X178.here hx rfl (hb hby at_143) rfl ((if0 _ _).trans (feq hc181).1) k) ?_
    refine go _ (T178.setTop (mkF m 148 #[.val (.long q1), .second, .val (.long q2), .second, .val (.long q3), .second, .val (.long q4), .second, .val (.long q5), .second, .val (.int p1), .val (.int (p1 &&& (3 : Int32))), .val (.ref b140), .val (.ref b140), .val (.ref b148), .val (.ref b153), .val (.ref b161), .val (.int (1 : Int32))] [(.ref b140)])) (fun t k => XS.aload X178.here hx rfl (hb hby at_146) rfl rfl k) ?_
    refine go _ (T178.setTop (mkF m 150 #[.val (.long q1), .second, .val (.long q2), .second, .val (.long q3), .second, .val (.long q4), .second, .val (.long q5), .second, .val (.int p1), .val (.int (p1 &&& (3 : Int32))), .val (.ref b140), .val (.ref b140), .val (.ref b148), .val (.ref b153), .val (.ref b161), .val (.int (1 : Int32))] [(.ref b153), (.ref b140)])) (fun t k => XS.aload X178.here hx rfl (hb hby at_148) rfl rfl k) ?_
    obtain ⟨_, _, ⟨T182, L182, k182, n182⟩, -, X182, ⟨Lc182, hQ182, l182, y182, z182⟩, st182⟩ := Jvm.LawKit.callS X178 hx (y := (⟨"com/example/withhold/withhold/crypto/Field25519SubtractPinLaw", "same10", "([J[J)Z"⟩ : MethodName)) hown (mvT hZ (hw _ (List.mem_of_getElem? (i := 19) rfl))) (mvT hZ (hw _ (List.mem_of_getElem? (i := 20) rfl))) (mvT hZ (hw _ (List.mem_of_getElem? (i := 2) rfl))) (mvT hZ (hw _ (List.mem_of_getElem? (i := 21) rfl))) (by decide) (backOf (W := 0) (rm5 l Z a0 hw [] b140 b153 gf140 T168.heap n0 Z170 A171 A174) hZ (hw _ (List.mem_of_getElem? (i := 21) rfl)) (hw _ (List.mem_of_getElem? (i := 2) rfl)) (by decide) (by decide)) (g := (mkF m 150 #[.val (.long q1), .second, .val (.long q2), .second, .val (.long q3), .second, .val (.long q4), .second, .val (.long q5), .second, .val (.int p1), .val (.int (p1 &&& (3 : Int32))), .val (.ref b140), .val (.ref b140), .val (.ref b148), .val (.ref b153), .val (.ref b161), .val (.int (1 : Int32))] [(.ref b153), (.ref b140)])) rfl (by rw [hml]; rfl) (argsL := [(.ref b140), (.ref b153)]) (rest := []) (lenOf pd_5 rfl) rfl (by show 2 * 0 + _ ≤ _; exact Nat.le_of_eq rfl) (hb hby at_150) (fun _ _ => ⟨rfl, hh178, (by decide : 0 + 1 + 1 + 1 + 1 + 1 + 0 ≤ _), (by decide : 0 + 10 + 10 + 10 + 10 + 10 + 0 ≤ _)⟩)
    dsimp only [Pt.U, Pt.locs, Pt.cells, Pt.slots] at X182 l182 y182 z182 st182 hQ182
    subst l182 y182 z182
    obtain ⟨rfl, Nq182, hh182⟩ := hQ182
    have N183 := Fr.app N179 Nq182
    refine go _ (T182.setTop (mkF m 153 #[.val (.long q1), .second, .val (.long q2), .second, .val (.long q3), .second, .val (.long q4), .second, .val (.long q5), .second, .val (.int p1), .val (.int (p1 &&& (3 : Int32))), .val (.ref b140), .val (.ref b140), .val (.ref b148), .val (.ref b153), .val (.ref b161), .val (.int (1 : Int32))] [(.int (1 : Int32))])) (st182) ?_
    have hc184 : ¬ ((1 : Int32) = (0 : Int32)) := by decide
    refine go _ (T182.setTop (mkF m 156 #[.val (.long q1), .second, .val (.long q2), .second, .val (.long q3), .second, .val (.long q4), .second, .val (.long q5), .second, .val (.int p1), .val (.int (p1 &&& (3 : Int32))), .val (.ref b140), .val (.ref b140), .val (.ref b148), .val (.ref b153), .val (.ref b161), .val (.int (1 : Int32))] [])) (fun t k => XS.ifNo X182.here hx rfl (hb hby at_153) rfl ((if0 _ _).trans (feq hc184).1) k) ?_
    refine go _ (T182.setTop (mkF m 157 #[.val (.long q1), .second, .val (.long q2), .second, .val (.long q3), .second, .val (.long q4), .second, .val (.long q5), .second, .val (.int p1), .val (.int (p1 &&& (3 : Int32))), .val (.ref b140), .val (.ref b140), .val (.ref b148), .val (.ref b153), .val (.ref b161), .val (.int (1 : Int32))] [(.int (1 : Int32))])) (fun t k => XS.iconst X182.here hx rfl (hb hby at_156) k) ?_
    refine go _ (T182.setTop (mkF m 161 #[.val (.long q1), .second, .val (.long q2), .second, .val (.long q3), .second, .val (.long q4), .second, .val (.long q5), .second, .val (.int p1), .val (.int (p1 &&& (3 : Int32))), .val (.ref b140), .val (.ref b140), .val (.ref b148), .val (.ref b153), .val (.ref b161), .val (.int (1 : Int32))] [(.int (1 : Int32))])) (fun t k => XS.goto X182.here hx rfl (pc0 := 157) (pc' := 161) rfl (hb hby at_157) (by decide) (by decide) k) ?_
    refine go _ (T182.setTop (mkF m 163 #[.val (.long q1), .second, .val (.long q2), .second, .val (.long q3), .second, .val (.long q4), .second, .val (.long q5), .second, .val (.int p1), .val (.int (p1 &&& (3 : Int32))), .val (.ref b140), .val (.ref b140), .val (.ref b148), .val (.ref b153), .val (.ref b161), .val (.int (1 : Int32))] [])) (fun t k => XS.istore X182.here hx rfl (hb hby at_161) rfl (l' := #[.val (.long q1), .second, .val (.long q2), .second, .val (.long q3), .second, .val (.long q4), .second, .val (.long q5), .second, .val (.int p1), .val (.int (p1 &&& (3 : Int32))), .val (.ref b140), .val (.ref b140), .val (.ref b148), .val (.ref b153), .val (.ref b161), .val (.int (1 : Int32))]) rfl k) ?_
    refine go _ (T182.setTop (mkF m 165 #[.val (.long q1), .second, .val (.long q2), .second, .val (.long q3), .second, .val (.long q4), .second, .val (.long q5), .second, .val (.int p1), .val (.int (p1 &&& (3 : Int32))), .val (.ref b140), .val (.ref b140), .val (.ref b148), .val (.ref b153), .val (.ref b161), .val (.int (1 : Int32))] [(.int (1 : Int32))])) (fun t k => XS.iload X182.here hx rfl (hb hby at_163) rfl k) ?_
    exact fin (some (.int (1 : Int32))) X182 (by decide) (by decide) (fun q => by cases q) (show Q_rm0 Z q1 q2 q3 q4 q5 p1 h0 n0 _ T182.heap _ from (by rw [hh182]; exact ⟨rfl, N183⟩)) (fun fs hr => retN X182 hx (t := .boolean) hret (by simp) (hb hby at_165) hr)
  · refine go _ (T143.setTop (mkF m 32 #[.val (.long q1), .second, .val (.long q2), .second, .val (.long q3), .second, .val (.long q4), .second, .val (.long q5), .second, .val (.int p1), .val (.int (p1 &&& (3 : Int32))), .val (.ref b140), .val (.ref b143), .unset, .unset, .unset, .unset] [])) (fun t k => XS.icmpYes X143.here hx rfl (pc0 := 25) (pc' := 32) rfl (hb hby at_25) rfl (feq hc147).2 (by decide) (by decide) k) ?_
    refine go _ (T143.setTop (mkF m 34 #[.val (.long q1), .second, .val (.long q2), .second, .val (.long q3), .second, .val (.long q4), .second, .val (.long q5), .second, .val (.int p1), .val (.int (p1 &&& (3 : Int32))), .val (.ref b140), .val (.ref b143), .unset, .unset, .unset, .unset] [(.ref b140)])) (fun t k => XS.aload X143.here hx rfl (hb hby at_32) rfl rfl k) ?_
    obtain ⟨_, _, ⟨T185, L185, k185, n185⟩, -, X185, ⟨Lc185, hQ185, l185, y185, z185⟩, st185⟩ := Jvm.LawKit.callS X143 hx (y := (⟨"com/example/withhold/withhold/crypto/Field25519SubtractPinLaw", "copy10", "([J)[J"⟩ : MethodName)) hown (mvT hZ (hw _ (List.mem_of_getElem? (i := 9) rfl))) (mvT hZ (hw _ (List.mem_of_getElem? (i := 10) rfl))) (mvT hZ (hw _ (List.mem_of_getElem? (i := 2) rfl))) (mvT hZ (hw _ (List.mem_of_getElem? (i := 11) rfl))) (by decide) (backOf (W := 0) (rm2 l Z a0 hw [] b140 gf140 T143.heap n0 Z145 A146) hZ (hw _ (List.mem_of_getElem? (i := 11) rfl)) (hw _ (List.mem_of_getElem? (i := 2) rfl)) (by decide) (by decide)) (g := (mkF m 34 #[.val (.long q1), .second, .val (.long q2), .second, .val (.long q3), .second, .val (.long q4), .second, .val (.long q5), .second, .val (.int p1), .val (.int (p1 &&& (3 : Int32))), .val (.ref b140), .val (.ref b143), .unset, .unset, .unset, .unset] [(.ref b140)])) rfl (by rw [hml]; rfl) (argsL := [(.ref b140)]) (rest := []) (lenOf pd_2 rfl) rfl (by show 2 * 0 + _ ≤ _; exact Nat.le_of_eq rfl) (hb hby at_34) (fun _ _ => ⟨rfl, rfl, (by decide : 0 + 1 + 1 + 1 ≤ _), (by decide : 0 + 10 + 10 + 10 ≤ _)⟩)
    dsimp only [Pt.U, Pt.locs, Pt.cells, Pt.slots] at X185 l185 y185 z185 st185 hQ185
    subst l185 y185 z185
    obtain ⟨b185, rfl, Nq185, geq185, szq185, Kq185, Aq185⟩ := hQ185
    have N186 := Fr.app N144 Nq185
    have Z187 : n0 ≤ T185.heap.size := Nat.le_trans Z145 Kq185.1
    have A188 := A146.keep Kq185 nin0
    have A189 := Aq143.keep Kq185 nin0
    have ne_b140_b185 : b140 ≠ b185 := Nat.ne_of_lt (Nat.lt_of_lt_of_le A146.lt szq185)
    have ne_b143_b185 : b143 ≠ b185 := Nat.ne_of_lt (Nat.lt_of_lt_of_le Aq143.lt szq185)
    refine go _ (T185.setTop (mkF m 37 #[.val (.long q1), .second, .val (.long q2), .second, .val (.long q3), .second, .val (.long q4), .second, .val (.long q5), .second, .val (.int p1), .val (.int (p1 &&& (3 : Int32))), .val (.ref b140), .val (.ref b143), .unset, .unset, .unset, .unset] [(.ref b185)])) (st185) ?_
    refine go _ (T185.setTop (mkF m 39 #[.val (.long q1), .second, .val (.long q2), .second, .val (.long q3), .second, .val (.long q4), .second, .val (.long q5), .second, .val (.int p1), .val (.int (p1 &&& (3 : Int32))), .val (.ref b140), .val (.ref b143), .val (.ref b185), .unset, .unset, .unset] [])) (fun t k => XS.astore X185.here hx rfl (hb hby at_37) rfl rfl (l' := #[.val (.long q1), .second, .val (.long q2), .second, .val (.long q3), .second, .val (.long q4), .second, .val (.long q5), .second, .val (.int p1), .val (.int (p1 &&& (3 : Int32))), .val (.ref b140), .val (.ref b143), .val (.ref b185), .unset, .unset, .unset]) rfl k) ?_
    refine go _ (T185.setTop (mkF m 41 #[.val (.long q1), .second, .val (.long q2), .second, .val (.long q3), .second, .val (.long q4), .second, .val (.long q5), .second, .val (.int p1), .val (.int (p1 &&& (3 : Int32))), .val (.ref b140), .val (.ref b143), .val (.ref b185), .unset, .unset, .unset] [(.ref b143)])) (fun t k => XS.aload X185.here hx rfl (hb hby at_39) rfl rfl k) ?_
    obtain ⟨_, _, ⟨T190, L190, k190, n190⟩, -, X190, ⟨Lc190, hQ190, l190, y190, z190⟩, st190⟩ := Jvm.LawKit.callS X185 hx (y := (⟨"com/example/withhold/withhold/crypto/Field25519SubtractPinLaw", "copy10", "([J)[J"⟩ : MethodName)) hown (mvT hZ (hw _ (List.mem_of_getElem? (i := 9) rfl))) (mvT hZ (hw _ (List.mem_of_getElem? (i := 10) rfl))) (mvT hZ (hw _ (List.mem_of_getElem? (i := 2) rfl))) (mvT hZ (hw _ (List.mem_of_getElem? (i := 11) rfl))) (by decide) (backOf (W := 0) (rm2 l Z a0 hw [] b143 gf143 T185.heap n0 Z187 A189) hZ (hw _ (List.mem_of_getElem? (i := 11) rfl)) (hw _ (List.mem_of_getElem? (i := 2) rfl)) (by decide) (by decide)) (g := (mkF m 41 #[.val (.long q1), .second, .val (.long q2), .second, .val (.long q3), .second, .val (.long q4), .second, .val (.long q5), .second, .val (.int p1), .val (.int (p1 &&& (3 : Int32))), .val (.ref b140), .val (.ref b143), .val (.ref b185), .unset, .unset, .unset] [(.ref b143)])) rfl (by rw [hml]; rfl) (argsL := [(.ref b143)]) (rest := []) (lenOf pd_2 rfl) rfl (by show 2 * 0 + _ ≤ _; exact Nat.le_of_eq rfl) (hb hby at_41) (fun _ _ => ⟨rfl, rfl, (by decide : 0 + 1 + 1 + 1 + 1 ≤ _), (by decide : 0 + 10 + 10 + 10 + 10 ≤ _)⟩)
    dsimp only [Pt.U, Pt.locs, Pt.cells, Pt.slots] at X190 l190 y190 z190 st190 hQ190
    subst l190 y190 z190
    obtain ⟨b190, rfl, Nq190, geq190, szq190, Kq190, Aq190⟩ := hQ190
    have N191 := Fr.app N186 Nq190
    have Z192 : n0 ≤ T190.heap.size := Nat.le_trans Z187 Kq190.1
    have A193 := A188.keep Kq190 nin0
    have A194 := A189.keep Kq190 nin0
    have A195 := Aq185.keep Kq190 nin0
    have ne_b140_b190 : b140 ≠ b190 := Nat.ne_of_lt (Nat.lt_of_lt_of_le A188.lt szq190)
    have ne_b143_b190 : b143 ≠ b190 := Nat.ne_of_lt (Nat.lt_of_lt_of_le A189.lt szq190)
    have ne_b185_b190 : b185 ≠ b190 := Nat.ne_of_lt (Nat.lt_of_lt_of_le Aq185.lt szq190)
    refine go _ (T190.setTop (mkF m 44 #[.val (.long q1), .second, .val (.long q2), .second, .val (.long q3), .second, .val (.long q4), .second, .val (.long q5), .second, .val (.int p1), .val (.int (p1 &&& (3 : Int32))), .val (.ref b140), .val (.ref b143), .val (.ref b185), .unset, .unset, .unset] [(.ref b190)])) (st190) ?_
    refine go _ (T190.setTop (mkF m 46 #[.val (.long q1), .second, .val (.long q2), .second, .val (.long q3), .second, .val (.long q4), .second, .val (.long q5), .second, .val (.int p1), .val (.int (p1 &&& (3 : Int32))), .val (.ref b140), .val (.ref b143), .val (.ref b185), .val (.ref b190), .unset, .unset] [])) (fun t k => XS.astore X190.here hx rfl (hb hby at_44) rfl rfl (l' := #[.val (.long q1), .second, .val (.long q2), .second, .val (.long q3), .second, .val (.long q4), .second, .val (.long q5), .second, .val (.int p1), .val (.int (p1 &&& (3 : Int32))), .val (.ref b140), .val (.ref b143), .val (.ref b185), .val (.ref b190), .unset, .unset]) rfl k) ?_
    refine go _ (T190.setTop (mkF m 48 #[.val (.long q1), .second, .val (.long q2), .second, .val (.long q3), .second, .val (.long q4), .second, .val (.long q5), .second, .val (.int p1), .val (.int (p1 &&& (3 : Int32))), .val (.ref b140), .val (.ref b143), .val (.ref b185), .val (.ref b190), .unset, .unset] [(.int (p1 &&& (3 : Int32)))])) (fun t k => XS.iload X190.here hx rfl (hb hby at_46) rfl k) ?_
    refine go _ (T190.setTop (mkF m 49 #[.val (.long q1), .second, .val (.long q2), .second, .val (.long q3), .second, .val (.long q4), .second, .val (.long q5), .second, .val (.int p1), .val (.int (p1 &&& (3 : Int32))), .val (.ref b140), .val (.ref b143), .val (.ref b185), .val (.ref b190), .unset, .unset] [(.int (1 : Int32)), (.int (p1 &&& (3 : Int32)))])) (fun t k => XS.iconst X190.here hx rfl (hb hby at_48) k) ?_
    by_cases hc196 : (p1 &&& (3 : Int32)) = (1 : Int32)
    · refine go _ (T190.setTop (mkF m 52 #[.val (.long q1), .second, .val (.long q2), .second, .val (.long q3), .second, .val (.long q4), .second, .val (.long q5), .second, .val (.int p1), .val (.int (p1 &&& (3 : Int32))), .val (.ref b140), .val (.ref b143), .val (.ref b185), .val (.ref b190), .unset, .unset] [])) (fun t k => XS.icmpNo X190.here hx rfl (hb hby at_49) rfl (teq hc196).2 k) ?_
      refine go _ (T190.setTop (mkF m 54 #[.val (.long q1), .second, .val (.long q2), .second, .val (.long q3), .second, .val (.long q4), .second, .val (.long q5), .second, .val (.int p1), .val (.int (p1 &&& (3 : Int32))), .val (.ref b140), .val (.ref b143), .val (.ref b185), .val (.ref b190), .unset, .unset] [(.ref b140)])) (fun t k => XS.aload X190.here hx rfl (hb hby at_52) rfl rfl k) ?_
      refine go _ (T190.setTop (mkF m 56 #[.val (.long q1), .second, .val (.long q2), .second, .val (.long q3), .second, .val (.long q4), .second, .val (.long q5), .second, .val (.int p1), .val (.int (p1 &&& (3 : Int32))), .val (.ref b140), .val (.ref b143), .val (.ref b185), .val (.ref b190), .val (.ref b140), .unset] [])) (fun t k => XS.astore X190.here hx rfl (hb hby at_54) rfl rfl (l' := #[.val (.long q1), .second, .val (.long q2), .second, .val (.long q3), .second, .val (.long q4), .second, .val (.long q5), .second, .val (.int p1), .val (.int (p1 &&& (3 : Int32))), .val (.ref b140), .val (.ref b143), .val (.ref b185), .val (.ref b190), .val (.ref b140), .unset]) rfl k) ?_
      refine go _ (T190.setTop (mkF m 85 #[.val (.long q1), .second, .val (.long q2), .second, .val (.long q3), .second, .val (.long q4), .second, .val (.long q5), .second, .val (.int p1), .val (.int (p1 &&& (3 : Int32))), .val (.ref b140), .val (.ref b143), .val (.ref b185), .val (.ref b190), .val (.ref b140), .unset] [])) (fun t k => XS.goto X190.here hx rfl (pc0 := 56) (pc' := 85) rfl (hb hby at_56) (by decide) (by decide) k) ?_
      refine go _ (T190.setTop (mkF m 87 #[.val (.long q1), .second, .val (.long q2), .second, .val (.long q3), .second, .val (.long q4), .second, .val (.long q5), .second, .val (.int p1), .val (.int (p1 &&& (3 : Int32))), .val (.ref b140), .val (.ref b143), .val (.ref b185), .val (.ref b190), .val (.ref b140), .unset] [(.ref b140)])) (fun t k => XS.aload X190.here hx rfl (hb hby at_85) rfl rfl k) ?_
      refine go _ (T190.setTop (mkF m 89 #[.val (.long q1), .second, .val (.long q2), .second, .val (.long q3), .second, .val (.long q4), .second, .val (.long q5), .second, .val (.int p1), .val (.int (p1 &&& (3 : Int32))), .val (.ref b140), .val (.ref b143), .val (.ref b185), .val (.ref b190), .val (.ref b140), .unset] [(.ref b140), (.ref b140)])) (fun t k => XS.aload X190.here hx rfl (hb hby at_87) rfl rfl k) ?_
      refine go _ (T190.setTop (mkF m 91 #[.val (.long q1), .second, .val (.long q2), .second, .val (.long q3), .second, .val (.long q4), .second, .val (.long q5), .second, .val (.int p1), .val (.int (p1 &&& (3 : Int32))), .val (.ref b140), .val (.ref b143), .val (.ref b185), .val (.ref b190), .val (.ref b140), .unset] [(.ref b143), (.ref b140), (.ref b140)])) (fun t k => XS.aload X190.here hx rfl (hb hby at_89) rfl rfl k) ?_
      obtain ⟨_, _, ⟨T197, L197, k197, n197⟩, -, X197, ⟨Lc197, hQ197, l197, y197, z197⟩, st197⟩ := Jvm.LawKit.callS X190 hx (y := (⟨"com/example/withhold/withhold/crypto/Field25519", "subtract", "([J[J[J)V"⟩ : MethodName)) hown (mvT hZ (hw _ (List.mem_of_getElem? (i := 12) rfl))) (mvT hZ (hw _ (List.mem_of_getElem? (i := 13) rfl))) (mvT hZ (hw _ (List.mem_of_getElem? (i := 14) rfl))) (mvT hZ (hw _ (List.mem_of_getElem? (i := 15) rfl))) (by decide) (backOf (W := 0) (rm3f l Z a0 hw [] b140 b143 gf140 gf143 T190.heap n0 Z192 A193 A194 geq140 (Ne.symm ne_b140_b143)) hZ (hw _ (List.mem_of_getElem? (i := 15) rfl)) (hw _ (List.mem_of_getElem? (i := 14) rfl)) (by decide) (by decide)) (g := (mkF m 91 #[.val (.long q1), .second, .val (.long q2), .second, .val (.long q3), .second, .val (.long q4), .second, .val (.long q5), .second, .val (.int p1), .val (.int (p1 &&& (3 : Int32))), .val (.ref b140), .val (.ref b143), .val (.ref b185), .val (.ref b190), .val (.ref b140), .unset] [(.ref b143), (.ref b140), (.ref b140)])) rfl (by rw [hml]; rfl) (argsL := [(.ref b140), (.ref b140), (.ref b143)]) (rest := []) (lenOf pd_3 rfl) rfl (by show 2 * 0 + _ ≤ _; exact Nat.le_of_eq rfl) (hb hby at_91) (fun _ _ => ⟨rfl, rfl, (by decide : 0 + 1 + 1 + 1 + 1 + 0 ≤ _), (by decide : 0 + 10 + 10 + 10 + 10 + 0 ≤ _)⟩)
      dsimp only [Pt.U, Pt.locs, Pt.cells, Pt.slots] at X197 l197 y197 z197 st197 hQ197
      subst l197 y197 z197
      obtain ⟨rfl, Nq197, Kq197, Aq197⟩ := hQ197
      have N198 := Fr.app N191 Nq197
      have Z199 : n0 ≤ T197.heap.size := Nat.le_trans Z192 Kq197.1
      have A200 := A194.keep Kq197 (ninS (Ne.symm ne_b140_b143) nin0)
      have A201 := A195.keep Kq197 (ninS (Ne.symm ne_b140_b185) nin0)
      have A202 := Aq190.keep Kq197 (ninS (Ne.symm ne_b140_b190) nin0)
      refine go _ (T197.setTop (mkF m 94 #[.val (.long q1), .second, .val (.long q2), .second, .val (.long q3), .second, .val (.long q4), .second, .val (.long q5), .second, .val (.int p1), .val (.int (p1 &&& (3 : Int32))), .val (.ref b140), .val (.ref b143), .val (.ref b185), .val (.ref b190), .val (.ref b140), .unset] [])) (st197) ?_
      refine go _ (T197.setTop (mkF m 96 #[.val (.long q1), .second, .val (.long q2), .second, .val (.long q3), .second, .val (.long q4), .second, .val (.long q5), .second, .val (.int p1), .val (.int (p1 &&& (3 : Int32))), .val (.ref b140), .val (.ref b143), .val (.ref b185), .val (.ref b190), .val (.ref b140), .unset] [(.ref b140)])) (fun t k => XS.aload X197.here hx rfl (hb hby at_94) rfl rfl k) ?_
      refine go _ (T197.setTop (mkF m 98 #[.val (.long q1), .second, .val (.long q2), .second, .val (.long q3), .second, .val (.long q4), .second, .val (.long q5), .second, .val (.int p1), .val (.int (p1 &&& (3 : Int32))), .val (.ref b140), .val (.ref b143), .val (.ref b185), .val (.ref b190), .val (.ref b140), .unset] [(.ref b190), (.ref b140)])) (fun t k => XS.aload X197.here hx rfl (hb hby at_96) rfl rfl k) ?_
      refine go _ (T197.setTop (mkF m 100 #[.val (.long q1), .second, .val (.long q2), .second, .val (.long q3), .second, .val (.long q4), .second, .val (.long q5), .second, .val (.int p1), .val (.int (p1 &&& (3 : Int32))), .val (.ref b140), .val (.ref b143), .val (.ref b185), .val (.ref b190), .val (.ref b140), .unset] [(.ref b185), (.ref b190), (.ref b140)])) (fun t k => XS.aload X197.here hx rfl (hb hby at_98) rfl rfl k) ?_
      obtain ⟨_, _, ⟨T203, L203, k203, n203⟩, -, X203, ⟨Lc203, hQ203, l203, y203, z203⟩, st203⟩ := Jvm.LawKit.callS X197 hx (y := (⟨"com/example/withhold/withhold/crypto/Field25519SubtractPinLaw", "backToF", "([J[J[J)Z"⟩ : MethodName)) hown (mvT hZ (hw _ (List.mem_of_getElem? (i := 16) rfl))) (mvT hZ (hw _ (List.mem_of_getElem? (i := 17) rfl))) (mvT hZ (hw _ (List.mem_of_getElem? (i := 2) rfl))) (mvT hZ (hw _ (List.mem_of_getElem? (i := 18) rfl))) (by decide) (backOf (W := 0) (rm4 l Z a0 hw [] b140 b190 b185 _ gf143 gf140 T197.heap n0 Z199 Aq197 A202 A201 (own_back gf140 gf143)) hZ (hw _ (List.mem_of_getElem? (i := 18) rfl)) (hw _ (List.mem_of_getElem? (i := 2) rfl)) (by decide) (by decide)) (g := (mkF m 100 #[.val (.long q1), .second, .val (.long q2), .second, .val (.long q3), .second, .val (.long q4), .second, .val (.long q5), .second, .val (.int p1), .val (.int (p1 &&& (3 : Int32))), .val (.ref b140), .val (.ref b143), .val (.ref b185), .val (.ref b190), .val (.ref b140), .unset] [(.ref b185), (.ref b190), (.ref b140)])) rfl (by rw [hml]; rfl) (argsL := [(.ref b140), (.ref b190), (.ref b185)]) (rest := []) (lenOf pd_4 rfl) rfl (by show 2 * 0 + _ ≤ _; exact Nat.le_of_eq rfl) (hb hby at_100) (fun _ _ => ⟨rfl, rfl, (by decide : 0 + 1 + 1 + 1 + 1 + 0 ≤ _), (by decide : 0 + 10 + 10 + 10 + 10 + 0 ≤ _)⟩)
      dsimp only [Pt.U, Pt.locs, Pt.cells, Pt.slots] at X203 l203 y203 z203 st203 hQ203
      subst l203 y203 z203
      obtain ⟨rfl, Nq203, hh203⟩ := hQ203
      have N204 := Fr.app N198 Nq203
      refine go _ (T203.setTop (mkF m 103 #[.val (.long q1), .second, .val (.long q2), .second, .val (.long q3), .second, .val (.long q4), .second, .val (.long q5), .second, .val (.int p1), .val (.int (p1 &&& (3 : Int32))), .val (.ref b140), .val (.ref b143), .val (.ref b185), .val (.ref b190), .val (.ref b140), .unset] [(.int (1 : Int32))])) (st203) ?_
      refine go _ (T203.setTop (mkF m 105 #[.val (.long q1), .second, .val (.long q2), .second, .val (.long q3), .second, .val (.long q4), .second, .val (.long q5), .second, .val (.int p1), .val (.int (p1 &&& (3 : Int32))), .val (.ref b140), .val (.ref b143), .val (.ref b185), .val (.ref b190), .val (.ref b140), .val (.int (1 : Int32))] [])) (fun t k => XS.istore X203.here hx rfl (hb hby at_103) rfl (l' := #[.val (.long q1), .second, .val (.long q2), .second, .val (.long q3), .second, .val (.long q4), .second, .val (.long q5), .second, .val (.int p1), .val (.int (p1 &&& (3 : Int32))), .val (.ref b140), .val (.ref b143), .val (.ref b185), .val (.ref b190), .val (.ref b140), .val (.int (1 : Int32))]) rfl k) ?_
      refine go _ (T203.setTop (mkF m 107 #[.val (.long q1), .second, .val (.long q2), .second, .val (.long q3), .second, .val (.long q4), .second, .val (.long q5), .second, .val (.int p1), .val (.int (p1 &&& (3 : Int32))), .val (.ref b140), .val (.ref b143), .val (.ref b185), .val (.ref b190), .val (.ref b140), .val (.int (1 : Int32))] [(.ref b140)])) (fun t k => XS.aload X203.here hx rfl (hb hby at_105) rfl rfl k) ?_
      refine go _ (T203.setTop (mkF m 109 #[.val (.long q1), .second, .val (.long q2), .second, .val (.long q3), .second, .val (.long q4), .second, .val (.long q5), .second, .val (.int p1), .val (.int (p1 &&& (3 : Int32))), .val (.ref b140), .val (.ref b143), .val (.ref b185), .val (.ref b190), .val (.ref b140), .val (.int (1 : Int32))] [(.ref b140), (.ref b140)])) (fun t k => XS.aload X203.here hx rfl (hb hby at_107) rfl rfl k) ?_
      refine go _ (T203.setTop (mkF m 134 #[.val (.long q1), .second, .val (.long q2), .second, .val (.long q3), .second, .val (.long q4), .second, .val (.long q5), .second, .val (.int p1), .val (.int (p1 &&& (3 : Int32))), .val (.ref b140), .val (.ref b143), .val (.ref b185), .val (.ref b190), .val (.ref b140), .val (.int (1 : Int32))] [])) (fun t k => Jvm.RoadKit.acmp (g := (mkF m 109 #[.val (.long q1), .second, .val (.long q2), .second, .val (.long q3), .second, .val (.long q4), .second, .val (.long q5), .second, .val (.int p1), .val (.int (p1 &&& (3 : Int32))), .val (.ref b140), .val (.ref b143), .val (.ref b185), .val (.ref b190), .val (.ref b140), .val (.int (1 : Int32))] [(.ref b140), (.ref b140)])) X203 hx rfl rfl rfl (pc0 := 109) (pc' := 134) (same := true) rfl (hb hby at_109) rfl (decide_eq_true rfl) (by decide) (by decide) k) ?_
      refine go _ (T203.setTop (mkF m 136 #[.val (.long q1), .second, .val (.long q2), .second, .val (.long q3), .second, .val (.long q4), .second, .val (.long q5), .second, .val (.int p1), .val (.int (p1 &&& (3 : Int32))), .val (.ref b140), .val (.ref b143), .val (.ref b185), .val (.ref b190), .val (.ref b140), .val (.int (1 : Int32))] [(.ref b140)])) (fun t k => XS.aload X203.here hx rfl (hb hby at_134) rfl rfl k) ?_
      refine go _ (T203.setTop (mkF m 138 #[.val (.long q1), .second, .val (.long q2), .second, .val (.long q3), .second, .val (.long q4), .second, .val (.long q5), .second, .val (.int p1), .val (.int (p1 &&& (3 : Int32))), .val (.ref b140), .val (.ref b143), .val (.ref b185), .val (.ref b190), .val (.ref b140), .val (.int (1 : Int32))] [(.ref b143), (.ref b140)])) (fun t k => XS.aload X203.here hx rfl (hb hby at_136) rfl rfl k) ?_
      refine go _ (T203.setTop (mkF m 141 #[.val (.long q1), .second, .val (.long q2), .second, .val (.long q3), .second, .val (.long q4), .second, .val (.long q5), .second, .val (.int p1), .val (.int (p1 &&& (3 : Int32))), .val (.ref b140), .val (.ref b143), .val (.ref b185), .val (.ref b190), .val (.ref b140), .val (.int (1 : Int32))] [])) (fun t k => Jvm.RoadKit.acmp (g := (mkF m 138 #[.val (.long q1), .second, .val (.long q2), .second, .val (.long q3), .second, .val (.long q4), .second, .val (.long q5), .second, .val (.int p1), .val (.int (p1 &&& (3 : Int32))), .val (.ref b140), .val (.ref b143), .val (.ref b185), .val (.ref b190), .val (.ref b140), .val (.int (1 : Int32))] [(.ref b143), (.ref b140)])) X203 hx rfl rfl rfl (pc0 := 138) (pc' := 141) (same := false) rfl (hb hby at_138) rfl (decide_eq_false fun q => ne_b140_b143 (Value.ref.inj q)) (by decide) (by decide) k) ?_
      refine go _ (T203.setTop (mkF m 143 #[.val (.long q1), .second, .val (.long q2), .second, .val (.long q3), .second, .val (.long q4), .second, .val (.long q5), .second, .val (.int p1), .val (.int (p1 &&& (3 : Int32))), .val (.ref b140), .val (.ref b143), .val (.ref b185), .val (.ref b190), .val (.ref b140), .val (.int (1 : Int32))] [(.int (1 : Int32))])) (fun t k => XS.iload X203.here hx rfl (hb hby at_141) rfl k) ?_
      have hc205 : ¬ ((1 : Int32) = (0 : Int32)) := by decide
      refine go _ (T203.setTop (mkF m 146 #[.val (.long q1), .second, .val (.long q2), .second, .val (.long q3), .second, .val (.long q4), .second, .val (.long q5), .second, .val (.int p1), .val (.int (p1 &&& (3 : Int32))), .val (.ref b140), .val (.ref b143), .val (.ref b185), .val (.ref b190), .val (.ref b140), .val (.int (1 : Int32))] [])) (fun t k => XS.ifNo X203.here hx rfl (hb hby at_143) rfl ((if0 _ _).trans (feq hc205).1) k) ?_
      refine go _ (T203.setTop (mkF m 148 #[.val (.long q1), .second, .val (.long q2), .second, .val (.long q3), .second, .val (.long q4), .second, .val (.long q5), .second, .val (.int p1), .val (.int (p1 &&& (3 : Int32))), .val (.ref b140), .val (.ref b143), .val (.ref b185), .val (.ref b190), .val (.ref b140), .val (.int (1 : Int32))] [(.ref b143)])) (fun t k => XS.aload X203.here hx rfl (hb hby at_146) rfl rfl k) ?_
      refine go _ (T203.setTop (mkF m 150 #[.val (.long q1), .second, .val (.long q2), .second, .val (.long q3), .second, .val (.long q4), .second, .val (.long q5), .second, .val (.int p1), .val (.int (p1 &&& (3 : Int32))), .val (.ref b140), .val (.ref b143), .val (.ref b185), .val (.ref b190), .val (.ref b140), .val (.int (1 : Int32))] [(.ref b190), (.ref b143)])) (fun t k => XS.aload X203.here hx rfl (hb hby at_148) rfl rfl k) ?_
      obtain ⟨_, _, ⟨T206, L206, k206, n206⟩, -, X206, ⟨Lc206, hQ206, l206, y206, z206⟩, st206⟩ := Jvm.LawKit.callS X203 hx (y := (⟨"com/example/withhold/withhold/crypto/Field25519SubtractPinLaw", "same10", "([J[J)Z"⟩ : MethodName)) hown (mvT hZ (hw _ (List.mem_of_getElem? (i := 19) rfl))) (mvT hZ (hw _ (List.mem_of_getElem? (i := 20) rfl))) (mvT hZ (hw _ (List.mem_of_getElem? (i := 2) rfl))) (mvT hZ (hw _ (List.mem_of_getElem? (i := 21) rfl))) (by decide) (backOf (W := 0) (rm5 l Z a0 hw [] b143 b190 gf143 T197.heap n0 Z199 A200 A202) hZ (hw _ (List.mem_of_getElem? (i := 21) rfl)) (hw _ (List.mem_of_getElem? (i := 2) rfl)) (by decide) (by decide)) (g := (mkF m 150 #[.val (.long q1), .second, .val (.long q2), .second, .val (.long q3), .second, .val (.long q4), .second, .val (.long q5), .second, .val (.int p1), .val (.int (p1 &&& (3 : Int32))), .val (.ref b140), .val (.ref b143), .val (.ref b185), .val (.ref b190), .val (.ref b140), .val (.int (1 : Int32))] [(.ref b190), (.ref b143)])) rfl (by rw [hml]; rfl) (argsL := [(.ref b143), (.ref b190)]) (rest := []) (lenOf pd_5 rfl) rfl (by show 2 * 0 + _ ≤ _; exact Nat.le_of_eq rfl) (hb hby at_150) (fun _ _ => ⟨rfl, hh203, (by decide : 0 + 1 + 1 + 1 + 1 + 0 ≤ _), (by decide : 0 + 10 + 10 + 10 + 10 + 0 ≤ _)⟩)
      dsimp only [Pt.U, Pt.locs, Pt.cells, Pt.slots] at X206 l206 y206 z206 st206 hQ206
      subst l206 y206 z206
      obtain ⟨rfl, Nq206, hh206⟩ := hQ206
      have N207 := Fr.app N204 Nq206
      refine go _ (T206.setTop (mkF m 153 #[.val (.long q1), .second, .val (.long q2), .second, .val (.long q3), .second, .val (.long q4), .second, .val (.long q5), .second, .val (.int p1), .val (.int (p1 &&& (3 : Int32))), .val (.ref b140), .val (.ref b143), .val (.ref b185), .val (.ref b190), .val (.ref b140), .val (.int (1 : Int32))] [(.int (1 : Int32))])) (st206) ?_
      have hc208 : ¬ ((1 : Int32) = (0 : Int32)) := by decide
      refine go _ (T206.setTop (mkF m 156 #[.val (.long q1), .second, .val (.long q2), .second, .val (.long q3), .second, .val (.long q4), .second, .val (.long q5), .second, .val (.int p1), .val (.int (p1 &&& (3 : Int32))), .val (.ref b140), .val (.ref b143), .val (.ref b185), .val (.ref b190), .val (.ref b140), .val (.int (1 : Int32))] [])) (fun t k => XS.ifNo X206.here hx rfl (hb hby at_153) rfl ((if0 _ _).trans (feq hc208).1) k) ?_
      refine go _ (T206.setTop (mkF m 157 #[.val (.long q1), .second, .val (.long q2), .second, .val (.long q3), .second, .val (.long q4), .second, .val (.long q5), .second, .val (.int p1), .val (.int (p1 &&& (3 : Int32))), .val (.ref b140), .val (.ref b143), .val (.ref b185), .val (.ref b190), .val (.ref b140), .val (.int (1 : Int32))] [(.int (1 : Int32))])) (fun t k => XS.iconst X206.here hx rfl (hb hby at_156) k) ?_
      refine go _ (T206.setTop (mkF m 161 #[.val (.long q1), .second, .val (.long q2), .second, .val (.long q3), .second, .val (.long q4), .second, .val (.long q5), .second, .val (.int p1), .val (.int (p1 &&& (3 : Int32))), .val (.ref b140), .val (.ref b143), .val (.ref b185), .val (.ref b190), .val (.ref b140), .val (.int (1 : Int32))] [(.int (1 : Int32))])) (fun t k => XS.goto X206.here hx rfl (pc0 := 157) (pc' := 161) rfl (hb hby at_157) (by decide) (by decide) k) ?_
      refine go _ (T206.setTop (mkF m 163 #[.val (.long q1), .second, .val (.long q2), .second, .val (.long q3), .second, .val (.long q4), .second, .val (.long q5), .second, .val (.int p1), .val (.int (p1 &&& (3 : Int32))), .val (.ref b140), .val (.ref b143), .val (.ref b185), .val (.ref b190), .val (.ref b140), .val (.int (1 : Int32))] [])) (fun t k => XS.istore X206.here hx rfl (hb hby at_161) rfl (l' := #[.val (.long q1), .second, .val (.long q2), .second, .val (.long q3), .second, .val (.long q4), .second, .val (.long q5), .second, .val (.int p1), .val (.int (p1 &&& (3 : Int32))), .val (.ref b140), .val (.ref b143), .val (.ref b185), .val (.ref b190), .val (.ref b140), .val (.int (1 : Int32))]) rfl k) ?_
      refine go _ (T206.setTop (mkF m 165 #[.val (.long q1), .second, .val (.long q2), .second, .val (.long q3), .second, .val (.long q4), .second, .val (.long q5), .second, .val (.int p1), .val (.int (p1 &&& (3 : Int32))), .val (.ref b140), .val (.ref b143), .val (.ref b185), .val (.ref b190), .val (.ref b140), .val (.int (1 : Int32))] [(.int (1 : Int32))])) (fun t k => XS.iload X206.here hx rfl (hb hby at_163) rfl k) ?_
      exact fin (some (.int (1 : Int32))) X206 (by decide) (by decide) (fun q => by cases q) (show Q_rm0 Z q1 q2 q3 q4 q5 p1 h0 n0 _ T206.heap _ from (by rw [hh206]; exact ⟨rfl, N207⟩)) (fun fs hr => retN X206 hx (t := .boolean) hret (by simp) (hb hby at_165) hr)
    · refine go _ (T190.setTop (mkF m 59 #[.val (.long q1), .second, .val (.long q2), .second, .val (.long q3), .second, .val (.long q4), .second, .val (.long q5), .second, .val (.int p1), .val (.int (p1 &&& (3 : Int32))), .val (.ref b140), .val (.ref b143), .val (.ref b185), .val (.ref b190), .unset, .unset] [])) (fun t k => XS.icmpYes X190.here hx rfl (pc0 := 49) (pc' := 59) rfl (hb hby at_49) rfl (feq hc196).2 (by decide) (by decide) k) ?_
      refine go _ (T190.setTop (mkF m 61 #[.val (.long q1), .second, .val (.long q2), .second, .val (.long q3), .second, .val (.long q4), .second, .val (.long q5), .second, .val (.int p1), .val (.int (p1 &&& (3 : Int32))), .val (.ref b140), .val (.ref b143), .val (.ref b185), .val (.ref b190), .unset, .unset] [(.int (p1 &&& (3 : Int32)))])) (fun t k => XS.iload X190.here hx rfl (hb hby at_59) rfl k) ?_
      refine go _ (T190.setTop (mkF m 62 #[.val (.long q1), .second, .val (.long q2), .second, .val (.long q3), .second, .val (.long q4), .second, .val (.long q5), .second, .val (.int p1), .val (.int (p1 &&& (3 : Int32))), .val (.ref b140), .val (.ref b143), .val (.ref b185), .val (.ref b190), .unset, .unset] [(.int (2 : Int32)), (.int (p1 &&& (3 : Int32)))])) (fun t k => XS.iconst X190.here hx rfl (hb hby at_61) k) ?_
      by_cases hc209 : (p1 &&& (3 : Int32)) = (2 : Int32)
      · refine go _ (T190.setTop (mkF m 65 #[.val (.long q1), .second, .val (.long q2), .second, .val (.long q3), .second, .val (.long q4), .second, .val (.long q5), .second, .val (.int p1), .val (.int (p1 &&& (3 : Int32))), .val (.ref b140), .val (.ref b143), .val (.ref b185), .val (.ref b190), .unset, .unset] [])) (fun t k => XS.icmpNo X190.here hx rfl (hb hby at_62) rfl (teq hc209).2 k) ?_
        refine go _ (T190.setTop (mkF m 67 #[.val (.long q1), .second, .val (.long q2), .second, .val (.long q3), .second, .val (.long q4), .second, .val (.long q5), .second, .val (.int p1), .val (.int (p1 &&& (3 : Int32))), .val (.ref b140), .val (.ref b143), .val (.ref b185), .val (.ref b190), .unset, .unset] [(.ref b143)])) (fun t k => XS.aload X190.here hx rfl (hb hby at_65) rfl rfl k) ?_
        refine go _ (T190.setTop (mkF m 69 #[.val (.long q1), .second, .val (.long q2), .second, .val (.long q3), .second, .val (.long q4), .second, .val (.long q5), .second, .val (.int p1), .val (.int (p1 &&& (3 : Int32))), .val (.ref b140), .val (.ref b143), .val (.ref b185), .val (.ref b190), .val (.ref b143), .unset] [])) (fun t k => XS.astore X190.here hx rfl (hb hby at_67) rfl rfl (l' := #[.val (.long q1), .second, .val (.long q2), .second, .val (.long q3), .second, .val (.long q4), .second, .val (.long q5), .second, .val (.int p1), .val (.int (p1 &&& (3 : Int32))), .val (.ref b140), .val (.ref b143), .val (.ref b185), .val (.ref b190), .val (.ref b143), .unset]) rfl k) ?_
        refine go _ (T190.setTop (mkF m 85 #[.val (.long q1), .second, .val (.long q2), .second, .val (.long q3), .second, .val (.long q4), .second, .val (.long q5), .second, .val (.int p1), .val (.int (p1 &&& (3 : Int32))), .val (.ref b140), .val (.ref b143), .val (.ref b185), .val (.ref b190), .val (.ref b143), .unset] [])) (fun t k => XS.goto X190.here hx rfl (pc0 := 69) (pc' := 85) rfl (hb hby at_69) (by decide) (by decide) k) ?_
        refine go _ (T190.setTop (mkF m 87 #[.val (.long q1), .second, .val (.long q2), .second, .val (.long q3), .second, .val (.long q4), .second, .val (.long q5), .second, .val (.int p1), .val (.int (p1 &&& (3 : Int32))), .val (.ref b140), .val (.ref b143), .val (.ref b185), .val (.ref b190), .val (.ref b143), .unset] [(.ref b143)])) (fun t k => XS.aload X190.here hx rfl (hb hby at_85) rfl rfl k) ?_
        refine go _ (T190.setTop (mkF m 89 #[.val (.long q1), .second, .val (.long q2), .second, .val (.long q3), .second, .val (.long q4), .second, .val (.long q5), .second, .val (.int p1), .val (.int (p1 &&& (3 : Int32))), .val (.ref b140), .val (.ref b143), .val (.ref b185), .val (.ref b190), .val (.ref b143), .unset] [(.ref b140), (.ref b143)])) (fun t k => XS.aload X190.here hx rfl (hb hby at_87) rfl rfl k) ?_
        refine go _ (T190.setTop (mkF m 91 #[.val (.long q1), .second, .val (.long q2), .second, .val (.long q3), .second, .val (.long q4), .second, .val (.long q5), .second, .val (.int p1), .val (.int (p1 &&& (3 : Int32))), .val (.ref b140), .val (.ref b143), .val (.ref b185), .val (.ref b190), .val (.ref b143), .unset] [(.ref b143), (.ref b140), (.ref b143)])) (fun t k => XS.aload X190.here hx rfl (hb hby at_89) rfl rfl k) ?_
        obtain ⟨_, _, ⟨T210, L210, k210, n210⟩, -, X210, ⟨Lc210, hQ210, l210, y210, z210⟩, st210⟩ := Jvm.LawKit.callS X190 hx (y := (⟨"com/example/withhold/withhold/crypto/Field25519", "subtract", "([J[J[J)V"⟩ : MethodName)) hown (mvT hZ (hw _ (List.mem_of_getElem? (i := 12) rfl))) (mvT hZ (hw _ (List.mem_of_getElem? (i := 13) rfl))) (mvT hZ (hw _ (List.mem_of_getElem? (i := 14) rfl))) (mvT hZ (hw _ (List.mem_of_getElem? (i := 15) rfl))) (by decide) (backOf (W := 0) (rm3g l Z a0 hw [] b143 b140 gf140 gf143 T190.heap n0 Z192 A194 A193 geq143 ne_b140_b143) hZ (hw _ (List.mem_of_getElem? (i := 15) rfl)) (hw _ (List.mem_of_getElem? (i := 14) rfl)) (by decide) (by decide)) (g := (mkF m 91 #[.val (.long q1), .second, .val (.long q2), .second, .val (.long q3), .second, .val (.long q4), .second, .val (.long q5), .second, .val (.int p1), .val (.int (p1 &&& (3 : Int32))), .val (.ref b140), .val (.ref b143), .val (.ref b185), .val (.ref b190), .val (.ref b143), .unset] [(.ref b143), (.ref b140), (.ref b143)])) rfl (by rw [hml]; rfl) (argsL := [(.ref b143), (.ref b140), (.ref b143)]) (rest := []) (lenOf pd_3 rfl) rfl (by show 2 * 0 + _ ≤ _; exact Nat.le_of_eq rfl) (hb hby at_91) (fun _ _ => ⟨rfl, rfl, (by decide : 0 + 1 + 1 + 1 + 1 + 0 ≤ _), (by decide : 0 + 10 + 10 + 10 + 10 + 0 ≤ _)⟩)
        dsimp only [Pt.U, Pt.locs, Pt.cells, Pt.slots] at X210 l210 y210 z210 st210 hQ210
        subst l210 y210 z210
        obtain ⟨rfl, Nq210, Kq210, Aq210⟩ := hQ210
        have N211 := Fr.app N191 Nq210
        have Z212 : n0 ≤ T210.heap.size := Nat.le_trans Z192 Kq210.1
        have A213 := A193.keep Kq210 (ninS ne_b140_b143 nin0)
        have A214 := A195.keep Kq210 (ninS (Ne.symm ne_b143_b185) nin0)
        have A215 := Aq190.keep Kq210 (ninS (Ne.symm ne_b143_b190) nin0)
        refine go _ (T210.setTop (mkF m 94 #[.val (.long q1), .second, .val (.long q2), .second, .val (.long q3), .second, .val (.long q4), .second, .val (.long q5), .second, .val (.int p1), .val (.int (p1 &&& (3 : Int32))), .val (.ref b140), .val (.ref b143), .val (.ref b185), .val (.ref b190), .val (.ref b143), .unset] [])) (st210) ?_
        refine go _ (T210.setTop (mkF m 96 #[.val (.long q1), .second, .val (.long q2), .second, .val (.long q3), .second, .val (.long q4), .second, .val (.long q5), .second, .val (.int p1), .val (.int (p1 &&& (3 : Int32))), .val (.ref b140), .val (.ref b143), .val (.ref b185), .val (.ref b190), .val (.ref b143), .unset] [(.ref b143)])) (fun t k => XS.aload X210.here hx rfl (hb hby at_94) rfl rfl k) ?_
        refine go _ (T210.setTop (mkF m 98 #[.val (.long q1), .second, .val (.long q2), .second, .val (.long q3), .second, .val (.long q4), .second, .val (.long q5), .second, .val (.int p1), .val (.int (p1 &&& (3 : Int32))), .val (.ref b140), .val (.ref b143), .val (.ref b185), .val (.ref b190), .val (.ref b143), .unset] [(.ref b190), (.ref b143)])) (fun t k => XS.aload X210.here hx rfl (hb hby at_96) rfl rfl k) ?_
        refine go _ (T210.setTop (mkF m 100 #[.val (.long q1), .second, .val (.long q2), .second, .val (.long q3), .second, .val (.long q4), .second, .val (.long q5), .second, .val (.int p1), .val (.int (p1 &&& (3 : Int32))), .val (.ref b140), .val (.ref b143), .val (.ref b185), .val (.ref b190), .val (.ref b143), .unset] [(.ref b185), (.ref b190), (.ref b143)])) (fun t k => XS.aload X210.here hx rfl (hb hby at_98) rfl rfl k) ?_
        obtain ⟨_, _, ⟨T216, L216, k216, n216⟩, -, X216, ⟨Lc216, hQ216, l216, y216, z216⟩, st216⟩ := Jvm.LawKit.callS X210 hx (y := (⟨"com/example/withhold/withhold/crypto/Field25519SubtractPinLaw", "backToF", "([J[J[J)Z"⟩ : MethodName)) hown (mvT hZ (hw _ (List.mem_of_getElem? (i := 16) rfl))) (mvT hZ (hw _ (List.mem_of_getElem? (i := 17) rfl))) (mvT hZ (hw _ (List.mem_of_getElem? (i := 2) rfl))) (mvT hZ (hw _ (List.mem_of_getElem? (i := 18) rfl))) (by decide) (backOf (W := 0) (rm4 l Z a0 hw [] b143 b190 b185 _ gf143 gf140 T210.heap n0 Z212 Aq210 A215 A214 (own_back gf140 gf143)) hZ (hw _ (List.mem_of_getElem? (i := 18) rfl)) (hw _ (List.mem_of_getElem? (i := 2) rfl)) (by decide) (by decide)) (g := (mkF m 100 #[.val (.long q1), .second, .val (.long q2), .second, .val (.long q3), .second, .val (.long q4), .second, .val (.long q5), .second, .val (.int p1), .val (.int (p1 &&& (3 : Int32))), .val (.ref b140), .val (.ref b143), .val (.ref b185), .val (.ref b190), .val (.ref b143), .unset] [(.ref b185), (.ref b190), (.ref b143)])) rfl (by rw [hml]; rfl) (argsL := [(.ref b143), (.ref b190), (.ref b185)]) (rest := []) (lenOf pd_4 rfl) rfl (by show 2 * 0 + _ ≤ _; exact Nat.le_of_eq rfl) (hb hby at_100) (fun _ _ => ⟨rfl, rfl, (by decide : 0 + 1 + 1 + 1 + 1 + 0 ≤ _), (by decide : 0 + 10 + 10 + 10 + 10 + 0 ≤ _)⟩)
        dsimp only [Pt.U, Pt.locs, Pt.cells, Pt.slots] at X216 l216 y216 z216 st216 hQ216
        subst l216 y216 z216
        obtain ⟨rfl, Nq216, hh216⟩ := hQ216
        have N217 := Fr.app N211 Nq216
        refine go _ (T216.setTop (mkF m 103 #[.val (.long q1), .second, .val (.long q2), .second, .val (.long q3), .second, .val (.long q4), .second, .val (.long q5), .second, .val (.int p1), .val (.int (p1 &&& (3 : Int32))), .val (.ref b140), .val (.ref b143), .val (.ref b185), .val (.ref b190), .val (.ref b143), .unset] [(.int (1 : Int32))])) (st216) ?_
        refine go _ (T216.setTop (mkF m 105 #[.val (.long q1), .second, .val (.long q2), .second, .val (.long q3), .second, .val (.long q4), .second, .val (.long q5), .second, .val (.int p1), .val (.int (p1 &&& (3 : Int32))), .val (.ref b140), .val (.ref b143), .val (.ref b185), .val (.ref b190), .val (.ref b143), .val (.int (1 : Int32))] [])) (fun t k => XS.istore X216.here hx rfl (hb hby at_103) rfl (l' := #[.val (.long q1), .second, .val (.long q2), .second, .val (.long q3), .second, .val (.long q4), .second, .val (.long q5), .second, .val (.int p1), .val (.int (p1 &&& (3 : Int32))), .val (.ref b140), .val (.ref b143), .val (.ref b185), .val (.ref b190), .val (.ref b143), .val (.int (1 : Int32))]) rfl k) ?_
        refine go _ (T216.setTop (mkF m 107 #[.val (.long q1), .second, .val (.long q2), .second, .val (.long q3), .second, .val (.long q4), .second, .val (.long q5), .second, .val (.int p1), .val (.int (p1 &&& (3 : Int32))), .val (.ref b140), .val (.ref b143), .val (.ref b185), .val (.ref b190), .val (.ref b143), .val (.int (1 : Int32))] [(.ref b143)])) (fun t k => XS.aload X216.here hx rfl (hb hby at_105) rfl rfl k) ?_
        refine go _ (T216.setTop (mkF m 109 #[.val (.long q1), .second, .val (.long q2), .second, .val (.long q3), .second, .val (.long q4), .second, .val (.long q5), .second, .val (.int p1), .val (.int (p1 &&& (3 : Int32))), .val (.ref b140), .val (.ref b143), .val (.ref b185), .val (.ref b190), .val (.ref b143), .val (.int (1 : Int32))] [(.ref b140), (.ref b143)])) (fun t k => XS.aload X216.here hx rfl (hb hby at_107) rfl rfl k) ?_
        refine go _ (T216.setTop (mkF m 112 #[.val (.long q1), .second, .val (.long q2), .second, .val (.long q3), .second, .val (.long q4), .second, .val (.long q5), .second, .val (.int p1), .val (.int (p1 &&& (3 : Int32))), .val (.ref b140), .val (.ref b143), .val (.ref b185), .val (.ref b190), .val (.ref b143), .val (.int (1 : Int32))] [])) (fun t k => Jvm.RoadKit.acmp (g := (mkF m 109 #[.val (.long q1), .second, .val (.long q2), .second, .val (.long q3), .second, .val (.long q4), .second, .val (.long q5), .second, .val (.int p1), .val (.int (p1 &&& (3 : Int32))), .val (.ref b140), .val (.ref b143), .val (.ref b185), .val (.ref b190), .val (.ref b143), .val (.int (1 : Int32))] [(.ref b140), (.ref b143)])) X216 hx rfl rfl rfl (pc0 := 109) (pc' := 112) (same := false) rfl (hb hby at_109) rfl (decide_eq_false fun q => (Ne.symm ne_b140_b143) (Value.ref.inj q)) (by decide) (by decide) k) ?_
        refine go _ (T216.setTop (mkF m 114 #[.val (.long q1), .second, .val (.long q2), .second, .val (.long q3), .second, .val (.long q4), .second, .val (.long q5), .second, .val (.int p1), .val (.int (p1 &&& (3 : Int32))), .val (.ref b140), .val (.ref b143), .val (.ref b185), .val (.ref b190), .val (.ref b143), .val (.int (1 : Int32))] [(.int (1 : Int32))])) (fun t k => XS.iload X216.here hx rfl (hb hby at_112) rfl k) ?_
        have hc218 : ¬ ((1 : Int32) = (0 : Int32)) := by decide
        refine go _ (T216.setTop (mkF m 117 #[.val (.long q1), .second, .val (.long q2), .second, .val (.long q3), .second, .val (.long q4), .second, .val (.long q5), .second, .val (.int p1), .val (.int (p1 &&& (3 : Int32))), .val (.ref b140), .val (.ref b143), .val (.ref b185), .val (.ref b190), .val (.ref b143), .val (.int (1 : Int32))] [])) (fun t k => XS.ifNo X216.here hx rfl (hb hby at_114) rfl ((if0 _ _).trans (feq hc218).1) k) ?_
        refine go _ (T216.setTop (mkF m 119 #[.val (.long q1), .second, .val (.long q2), .second, .val (.long q3), .second, .val (.long q4), .second, .val (.long q5), .second, .val (.int p1), .val (.int (p1 &&& (3 : Int32))), .val (.ref b140), .val (.ref b143), .val (.ref b185), .val (.ref b190), .val (.ref b143), .val (.int (1 : Int32))] [(.ref b140)])) (fun t k => XS.aload X216.here hx rfl (hb hby at_117) rfl rfl k) ?_
        refine go _ (T216.setTop (mkF m 121 #[.val (.long q1), .second, .val (.long q2), .second, .val (.long q3), .second, .val (.long q4), .second, .val (.long q5), .second, .val (.int p1), .val (.int (p1 &&& (3 : Int32))), .val (.ref b140), .val (.ref b143), .val (.ref b185), .val (.ref b190), .val (.ref b143), .val (.int (1 : Int32))] [(.ref b185), (.ref b140)])) (fun t k => XS.aload X216.here hx rfl (hb hby at_119) rfl rfl k) ?_
        obtain ⟨_, _, ⟨T219, L219, k219, n219⟩, -, X219, ⟨Lc219, hQ219, l219, y219, z219⟩, st219⟩ := Jvm.LawKit.callS X216 hx (y := (⟨"com/example/withhold/withhold/crypto/Field25519SubtractPinLaw", "same10", "([J[J)Z"⟩ : MethodName)) hown (mvT hZ (hw _ (List.mem_of_getElem? (i := 19) rfl))) (mvT hZ (hw _ (List.mem_of_getElem? (i := 20) rfl))) (mvT hZ (hw _ (List.mem_of_getElem? (i := 2) rfl))) (mvT hZ (hw _ (List.mem_of_getElem? (i := 21) rfl))) (by decide) (backOf (W := 0) (rm5 l Z a0 hw [] b140 b185 gf140 T210.heap n0 Z212 A213 A214) hZ (hw _ (List.mem_of_getElem? (i := 21) rfl)) (hw _ (List.mem_of_getElem? (i := 2) rfl)) (by decide) (by decide)) (g := (mkF m 121 #[.val (.long q1), .second, .val (.long q2), .second, .val (.long q3), .second, .val (.long q4), .second, .val (.long q5), .second, .val (.int p1), .val (.int (p1 &&& (3 : Int32))), .val (.ref b140), .val (.ref b143), .val (.ref b185), .val (.ref b190), .val (.ref b143), .val (.int (1 : Int32))] [(.ref b185), (.ref b140)])) rfl (by rw [hml]; rfl) (argsL := [(.ref b140), (.ref b185)]) (rest := []) (lenOf pd_5 rfl) rfl (by show 2 * 0 + _ ≤ _; exact Nat.le_of_eq rfl) (hb hby at_121) (fun _ _ => ⟨rfl, hh216, (by decide : 0 + 1 + 1 + 1 + 1 + 0 ≤ _), (by decide : 0 + 10 + 10 + 10 + 10 + 0 ≤ _)⟩)
        dsimp only [Pt.U, Pt.locs, Pt.cells, Pt.slots] at X219 l219 y219 z219 st219 hQ219
        subst l219 y219 z219
        obtain ⟨rfl, Nq219, hh219⟩ := hQ219
        have N220 := Fr.app N217 Nq219
        refine go _ (T219.setTop (mkF m 124 #[.val (.long q1), .second, .val (.long q2), .second, .val (.long q3), .second, .val (.long q4), .second, .val (.long q5), .second, .val (.int p1), .val (.int (p1 &&& (3 : Int32))), .val (.ref b140), .val (.ref b143), .val (.ref b185), .val (.ref b190), .val (.ref b143), .val (.int (1 : Int32))] [(.int (1 : Int32))])) (st219) ?_
        have hc221 : ¬ ((1 : Int32) = (0 : Int32)) := by decide
        refine go _ (T219.setTop (mkF m 127 #[.val (.long q1), .second, .val (.long q2), .second, .val (.long q3), .second, .val (.long q4), .second, .val (.long q5), .second, .val (.int p1), .val (.int (p1 &&& (3 : Int32))), .val (.ref b140), .val (.ref b143), .val (.ref b185), .val (.ref b190), .val (.ref b143), .val (.int (1 : Int32))] [])) (fun t k => XS.ifNo X219.here hx rfl (hb hby at_124) rfl ((if0 _ _).trans (feq hc221).1) k) ?_
        refine go _ (T219.setTop (mkF m 128 #[.val (.long q1), .second, .val (.long q2), .second, .val (.long q3), .second, .val (.long q4), .second, .val (.long q5), .second, .val (.int p1), .val (.int (p1 &&& (3 : Int32))), .val (.ref b140), .val (.ref b143), .val (.ref b185), .val (.ref b190), .val (.ref b143), .val (.int (1 : Int32))] [(.int (1 : Int32))])) (fun t k => XS.iconst X219.here hx rfl (hb hby at_127) k) ?_
        refine go _ (T219.setTop (mkF m 132 #[.val (.long q1), .second, .val (.long q2), .second, .val (.long q3), .second, .val (.long q4), .second, .val (.long q5), .second, .val (.int p1), .val (.int (p1 &&& (3 : Int32))), .val (.ref b140), .val (.ref b143), .val (.ref b185), .val (.ref b190), .val (.ref b143), .val (.int (1 : Int32))] [(.int (1 : Int32))])) (fun t k => XS.goto X219.here hx rfl (pc0 := 128) (pc' := 132) rfl (hb hby at_128) (by decide) (by decide) k) ?_
        refine go _ (T219.setTop (mkF m 134 #[.val (.long q1), .second, .val (.long q2), .second, .val (.long q3), .second, .val (.long q4), .second, .val (.long q5), .second, .val (.int p1), .val (.int (p1 &&& (3 : Int32))), .val (.ref b140), .val (.ref b143), .val (.ref b185), .val (.ref b190), .val (.ref b143), .val (.int (1 : Int32))] [])) (fun t k => XS.istore X219.here hx rfl (hb hby at_132) rfl (l' := #[.val (.long q1), .second, .val (.long q2), .second, .val (.long q3), .second, .val (.long q4), .second, .val (.long q5), .second, .val (.int p1), .val (.int (p1 &&& (3 : Int32))), .val (.ref b140), .val (.ref b143), .val (.ref b185), .val (.ref b190), .val (.ref b143), .val (.int (1 : Int32))]) rfl k) ?_
        refine go _ (T219.setTop (mkF m 136 #[.val (.long q1), .second, .val (.long q2), .second, .val (.long q3), .second, .val (.long q4), .second, .val (.long q5), .second, .val (.int p1), .val (.int (p1 &&& (3 : Int32))), .val (.ref b140), .val (.ref b143), .val (.ref b185), .val (.ref b190), .val (.ref b143), .val (.int (1 : Int32))] [(.ref b143)])) (fun t k => XS.aload X219.here hx rfl (hb hby at_134) rfl rfl k) ?_
        refine go _ (T219.setTop (mkF m 138 #[.val (.long q1), .second, .val (.long q2), .second, .val (.long q3), .second, .val (.long q4), .second, .val (.long q5), .second, .val (.int p1), .val (.int (p1 &&& (3 : Int32))), .val (.ref b140), .val (.ref b143), .val (.ref b185), .val (.ref b190), .val (.ref b143), .val (.int (1 : Int32))] [(.ref b143), (.ref b143)])) (fun t k => XS.aload X219.here hx rfl (hb hby at_136) rfl rfl k) ?_
        refine go _ (T219.setTop (mkF m 163 #[.val (.long q1), .second, .val (.long q2), .second, .val (.long q3), .second, .val (.long q4), .second, .val (.long q5), .second, .val (.int p1), .val (.int (p1 &&& (3 : Int32))), .val (.ref b140), .val (.ref b143), .val (.ref b185), .val (.ref b190), .val (.ref b143), .val (.int (1 : Int32))] [])) (fun t k => Jvm.RoadKit.acmp (g := (mkF m 138 #[.val (.long q1), .second, .val (.long q2), .second, .val (.long q3), .second, .val (.long q4), .second, .val (.long q5), .second, .val (.int p1), .val (.int (p1 &&& (3 : Int32))), .val (.ref b140), .val (.ref b143), .val (.ref b185), .val (.ref b190), .val (.ref b143), .val (.int (1 : Int32))] [(.ref b143), (.ref b143)])) X219 hx rfl rfl rfl (pc0 := 138) (pc' := 163) (same := true) rfl (hb hby at_138) rfl (decide_eq_true rfl) (by decide) (by decide) k) ?_
        refine go _ (T219.setTop (mkF m 165 #[.val (.long q1), .second, .val (.long q2), .second, .val (.long q3), .second, .val (.long q4), .second, .val (.long q5), .second, .val (.int p1), .val (.int (p1 &&& (3 : Int32))), .val (.ref b140), .val (.ref b143), .val (.ref b185), .val (.ref b190), .val (.ref b143), .val (.int (1 : Int32))] [(.int (1 : Int32))])) (fun t k => XS.iload X219.here hx rfl (hb hby at_163) rfl k) ?_
        exact fin (some (.int (1 : Int32))) X219 (by decide) (by decide) (fun q => by cases q) (show Q_rm0 Z q1 q2 q3 q4 q5 p1 h0 n0 _ T219.heap _ from (by rw [hh219]; exact ⟨rfl, N220⟩)) (fun fs hr => retN X219 hx (t := .boolean) hret (by simp) (hb hby at_165) hr)
      · refine go _ (T190.setTop (mkF m 72 #[.val (.long q1), .second, .val (.long q2), .second, .val (.long q3), .second, .val (.long q4), .second, .val (.long q5), .second, .val (.int p1), .val (.int (p1 &&& (3 : Int32))), .val (.ref b140), .val (.ref b143), .val (.ref b185), .val (.ref b190), .unset, .unset] [])) (fun t k => XS.icmpYes X190.here hx rfl (pc0 := 62) (pc' := 72) rfl (hb hby at_62) rfl (feq hc209).2 (by decide) (by decide) k) ?_
        refine go _ (T190.setTop (mkF m 74 #[.val (.long q1), .second, .val (.long q2), .second, .val (.long q3), .second, .val (.long q4), .second, .val (.long q5), .second, .val (.int p1), .val (.int (p1 &&& (3 : Int32))), .val (.ref b140), .val (.ref b143), .val (.ref b185), .val (.ref b190), .unset, .unset] [(.long q5)])) (fun t k => XS.lload X190.here hx rfl (hb hby at_72) rfl k) ?_
        refine go _ (T190.setTop (mkF m 76 #[.val (.long q1), .second, .val (.long q2), .second, .val (.long q3), .second, .val (.long q4), .second, .val (.long q5), .second, .val (.int p1), .val (.int (p1 &&& (3 : Int32))), .val (.ref b140), .val (.ref b143), .val (.ref b185), .val (.ref b190), .unset, .unset] [(.long q5), (.long q5)])) (fun t k => XS.lload X190.here hx rfl (hb hby at_74) rfl k) ?_
        refine go _ (T190.setTop (mkF m 79 #[.val (.long q1), .second, .val (.long q2), .second, .val (.long q3), .second, .val (.long q4), .second, .val (.long q5), .second, .val (.int p1), .val (.int (p1 &&& (3 : Int32))), .val (.ref b140), .val (.ref b143), .val (.ref b185), .val (.ref b190), .unset, .unset] [(.long (-1 : Int64)), (.long q5), (.long q5)])) (X190.ldc2Long hx hown (mvT hZ (hw _ (List.mem_of_getElem? (i := 7) rfl))) (g := (mkF m 76 #[.val (.long q1), .second, .val (.long q2), .second, .val (.long q3), .second, .val (.long q4), .second, .val (.long q5), .second, .val (.int p1), .val (.int (p1 &&& (3 : Int32))), .val (.ref b140), .val (.ref b143), .val (.ref b185), .val (.ref b190), .unset, .unset] [(.long q5), (.long q5)])) rfl (hb hby at_76)) ?_
        refine go _ (T190.setTop (mkF m 80 #[.val (.long q1), .second, .val (.long q2), .second, .val (.long q3), .second, .val (.long q4), .second, .val (.long q5), .second, .val (.int p1), .val (.int (p1 &&& (3 : Int32))), .val (.ref b140), .val (.ref b143), .val (.ref b185), .val (.ref b190), .unset, .unset] [(.long (q5 ^^^ (-1 : Int64))), (.long q5)])) (fun t k => XS.lxor X190.here hx rfl (hb hby at_79) rfl k) ?_
        obtain ⟨_, _, ⟨T222, L222, k222, n222⟩, -, X222, ⟨Lc222, hQ222, l222, y222, z222⟩, st222⟩ := Jvm.LawKit.callS X190 hx (y := (⟨"com/example/withhold/withhold/crypto/Field25519SubtractPinLaw", "fill", "(JJ)[J"⟩ : MethodName)) hown (mvT hZ (hw _ (List.mem_of_getElem? (i := 0) rfl))) (mvT hZ (hw _ (List.mem_of_getElem? (i := 1) rfl))) (mvT hZ (hw _ (List.mem_of_getElem? (i := 2) rfl))) (mvT hZ (hw _ (List.mem_of_getElem? (i := 3) rfl))) (by decide) (backOf (W := 0) (rm1 l Z a0 hw [] q5 (q5 ^^^ (-1 : Int64))  T190.heap n0 Z192 ) hZ (hw _ (List.mem_of_getElem? (i := 3) rfl)) (hw _ (List.mem_of_getElem? (i := 2) rfl)) (by decide) (by decide)) (g := (mkF m 80 #[.val (.long q1), .second, .val (.long q2), .second, .val (.long q3), .second, .val (.long q4), .second, .val (.long q5), .second, .val (.int p1), .val (.int (p1 &&& (3 : Int32))), .val (.ref b140), .val (.ref b143), .val (.ref b185), .val (.ref b190), .unset, .unset] [(.long (q5 ^^^ (-1 : Int64))), (.long q5)])) rfl (by rw [hml]; rfl) (argsL := [(.long q5), (.long (q5 ^^^ (-1 : Int64)))]) (rest := []) (lenOf pd_1 rfl) rfl (by show 2 * 0 + _ ≤ _; exact Nat.le_of_eq rfl) (hb hby at_80) (fun _ _ => ⟨rfl, rfl, (by decide : 0 + 1 + 1 + 1 + 1 + 1 ≤ _), (by decide : 0 + 10 + 10 + 10 + 10 + 10 ≤ _)⟩)
        dsimp only [Pt.U, Pt.locs, Pt.cells, Pt.slots] at X222 l222 y222 z222 st222 hQ222
        subst l222 y222 z222
        obtain ⟨b222, rfl, Nq222, geq222, szq222, Kq222, gf222, Aq222⟩ := hQ222
        have N223 := Fr.app N191 Nq222
        have Z224 : n0 ≤ T222.heap.size := Nat.le_trans Z192 Kq222.1
        have A225 := A193.keep Kq222 nin0
        have A226 := A194.keep Kq222 nin0
        have A227 := A195.keep Kq222 nin0
        have A228 := Aq190.keep Kq222 nin0
        have ne_b140_b222 : b140 ≠ b222 := Nat.ne_of_lt (Nat.lt_of_lt_of_le A193.lt szq222)
        have ne_b143_b222 : b143 ≠ b222 := Nat.ne_of_lt (Nat.lt_of_lt_of_le A194.lt szq222)
        have ne_b185_b222 : b185 ≠ b222 := Nat.ne_of_lt (Nat.lt_of_lt_of_le A195.lt szq222)
        have ne_b190_b222 : b190 ≠ b222 := Nat.ne_of_lt (Nat.lt_of_lt_of_le Aq190.lt szq222)
        refine go _ (T222.setTop (mkF m 83 #[.val (.long q1), .second, .val (.long q2), .second, .val (.long q3), .second, .val (.long q4), .second, .val (.long q5), .second, .val (.int p1), .val (.int (p1 &&& (3 : Int32))), .val (.ref b140), .val (.ref b143), .val (.ref b185), .val (.ref b190), .unset, .unset] [(.ref b222)])) (st222) ?_
        refine go _ (T222.setTop (mkF m 85 #[.val (.long q1), .second, .val (.long q2), .second, .val (.long q3), .second, .val (.long q4), .second, .val (.long q5), .second, .val (.int p1), .val (.int (p1 &&& (3 : Int32))), .val (.ref b140), .val (.ref b143), .val (.ref b185), .val (.ref b190), .val (.ref b222), .unset] [])) (fun t k => XS.astore X222.here hx rfl (hb hby at_83) rfl rfl (l' := #[.val (.long q1), .second, .val (.long q2), .second, .val (.long q3), .second, .val (.long q4), .second, .val (.long q5), .second, .val (.int p1), .val (.int (p1 &&& (3 : Int32))), .val (.ref b140), .val (.ref b143), .val (.ref b185), .val (.ref b190), .val (.ref b222), .unset]) rfl k) ?_
        refine go _ (T222.setTop (mkF m 87 #[.val (.long q1), .second, .val (.long q2), .second, .val (.long q3), .second, .val (.long q4), .second, .val (.long q5), .second, .val (.int p1), .val (.int (p1 &&& (3 : Int32))), .val (.ref b140), .val (.ref b143), .val (.ref b185), .val (.ref b190), .val (.ref b222), .unset] [(.ref b222)])) (fun t k => XS.aload X222.here hx rfl (hb hby at_85) rfl rfl k) ?_
        refine go _ (T222.setTop (mkF m 89 #[.val (.long q1), .second, .val (.long q2), .second, .val (.long q3), .second, .val (.long q4), .second, .val (.long q5), .second, .val (.int p1), .val (.int (p1 &&& (3 : Int32))), .val (.ref b140), .val (.ref b143), .val (.ref b185), .val (.ref b190), .val (.ref b222), .unset] [(.ref b140), (.ref b222)])) (fun t k => XS.aload X222.here hx rfl (hb hby at_87) rfl rfl k) ?_
        refine go _ (T222.setTop (mkF m 91 #[.val (.long q1), .second, .val (.long q2), .second, .val (.long q3), .second, .val (.long q4), .second, .val (.long q5), .second, .val (.int p1), .val (.int (p1 &&& (3 : Int32))), .val (.ref b140), .val (.ref b143), .val (.ref b185), .val (.ref b190), .val (.ref b222), .unset] [(.ref b143), (.ref b140), (.ref b222)])) (fun t k => XS.aload X222.here hx rfl (hb hby at_89) rfl rfl k) ?_
        obtain ⟨_, _, ⟨T229, L229, k229, n229⟩, -, X229, ⟨Lc229, hQ229, l229, y229, z229⟩, st229⟩ := Jvm.LawKit.callS X222 hx (y := (⟨"com/example/withhold/withhold/crypto/Field25519", "subtract", "([J[J[J)V"⟩ : MethodName)) hown (mvT hZ (hw _ (List.mem_of_getElem? (i := 12) rfl))) (mvT hZ (hw _ (List.mem_of_getElem? (i := 13) rfl))) (mvT hZ (hw _ (List.mem_of_getElem? (i := 14) rfl))) (mvT hZ (hw _ (List.mem_of_getElem? (i := 15) rfl))) (by decide) (backOf (W := 0) (rm3d l Z a0 hw [] b222 b140 b143 gf140 gf143 gf222 T222.heap n0 Z224 Aq222 A225 A226 geq222 ne_b140_b222 ne_b143_b222) hZ (hw _ (List.mem_of_getElem? (i := 15) rfl)) (hw _ (List.mem_of_getElem? (i := 14) rfl)) (by decide) (by decide)) (g := (mkF m 91 #[.val (.long q1), .second, .val (.long q2), .second, .val (.long q3), .second, .val (.long q4), .second, .val (.long q5), .second, .val (.int p1), .val (.int (p1 &&& (3 : Int32))), .val (.ref b140), .val (.ref b143), .val (.ref b185), .val (.ref b190), .val (.ref b222), .unset] [(.ref b143), (.ref b140), (.ref b222)])) rfl (by rw [hml]; rfl) (argsL := [(.ref b222), (.ref b140), (.ref b143)]) (rest := []) (lenOf pd_3 rfl) rfl (by show 2 * 0 + _ ≤ _; exact Nat.le_of_eq rfl) (hb hby at_91) (fun _ _ => ⟨rfl, rfl, (by decide : 0 + 1 + 1 + 1 + 1 + 1 + 0 ≤ _), (by decide : 0 + 10 + 10 + 10 + 10 + 10 + 0 ≤ _)⟩)
        dsimp only [Pt.U, Pt.locs, Pt.cells, Pt.slots] at X229 l229 y229 z229 st229 hQ229
        subst l229 y229 z229
        obtain ⟨rfl, Nq229, Kq229, Aq229⟩ := hQ229
        have N230 := Fr.app N223 Nq229
        have Z231 : n0 ≤ T229.heap.size := Nat.le_trans Z224 Kq229.1
        have A232 := A225.keep Kq229 (ninS ne_b140_b222 nin0)
        have A233 := A226.keep Kq229 (ninS ne_b143_b222 nin0)
        have A234 := A227.keep Kq229 (ninS ne_b185_b222 nin0)
        have A235 := A228.keep Kq229 (ninS ne_b190_b222 nin0)
        refine go _ (T229.setTop (mkF m 94 #[.val (.long q1), .second, .val (.long q2), .second, .val (.long q3), .second, .val (.long q4), .second, .val (.long q5), .second, .val (.int p1), .val (.int (p1 &&& (3 : Int32))), .val (.ref b140), .val (.ref b143), .val (.ref b185), .val (.ref b190), .val (.ref b222), .unset] [])) (st229) ?_
        refine go _ (T229.setTop (mkF m 96 #[.val (.long q1), .second, .val (.long q2), .second, .val (.long q3), .second, .val (.long q4), .second, .val (.long q5), .second, .val (.int p1), .val (.int (p1 &&& (3 : Int32))), .val (.ref b140), .val (.ref b143), .val (.ref b185), .val (.ref b190), .val (.ref b222), .unset] [(.ref b222)])) (fun t k => XS.aload X229.here hx rfl (hb hby at_94) rfl rfl k) ?_
        refine go _ (T229.setTop (mkF m 98 #[.val (.long q1), .second, .val (.long q2), .second, .val (.long q3), .second, .val (.long q4), .second, .val (.long q5), .second, .val (.int p1), .val (.int (p1 &&& (3 : Int32))), .val (.ref b140), .val (.ref b143), .val (.ref b185), .val (.ref b190), .val (.ref b222), .unset] [(.ref b190), (.ref b222)])) (fun t k => XS.aload X229.here hx rfl (hb hby at_96) rfl rfl k) ?_
        refine go _ (T229.setTop (mkF m 100 #[.val (.long q1), .second, .val (.long q2), .second, .val (.long q3), .second, .val (.long q4), .second, .val (.long q5), .second, .val (.int p1), .val (.int (p1 &&& (3 : Int32))), .val (.ref b140), .val (.ref b143), .val (.ref b185), .val (.ref b190), .val (.ref b222), .unset] [(.ref b185), (.ref b190), (.ref b222)])) (fun t k => XS.aload X229.here hx rfl (hb hby at_98) rfl rfl k) ?_
        obtain ⟨_, _, ⟨T236, L236, k236, n236⟩, -, X236, ⟨Lc236, hQ236, l236, y236, z236⟩, st236⟩ := Jvm.LawKit.callS X229 hx (y := (⟨"com/example/withhold/withhold/crypto/Field25519SubtractPinLaw", "backToF", "([J[J[J)Z"⟩ : MethodName)) hown (mvT hZ (hw _ (List.mem_of_getElem? (i := 16) rfl))) (mvT hZ (hw _ (List.mem_of_getElem? (i := 17) rfl))) (mvT hZ (hw _ (List.mem_of_getElem? (i := 2) rfl))) (mvT hZ (hw _ (List.mem_of_getElem? (i := 18) rfl))) (by decide) (backOf (W := 0) (rm4 l Z a0 hw [] b222 b190 b185 _ gf143 gf140 T229.heap n0 Z231 Aq229 A235 A234 (own_back gf140 gf143)) hZ (hw _ (List.mem_of_getElem? (i := 18) rfl)) (hw _ (List.mem_of_getElem? (i := 2) rfl)) (by decide) (by decide)) (g := (mkF m 100 #[.val (.long q1), .second, .val (.long q2), .second, .val (.long q3), .second, .val (.long q4), .second, .val (.long q5), .second, .val (.int p1), .val (.int (p1 &&& (3 : Int32))), .val (.ref b140), .val (.ref b143), .val (.ref b185), .val (.ref b190), .val (.ref b222), .unset] [(.ref b185), (.ref b190), (.ref b222)])) rfl (by rw [hml]; rfl) (argsL := [(.ref b222), (.ref b190), (.ref b185)]) (rest := []) (lenOf pd_4 rfl) rfl (by show 2 * 0 + _ ≤ _; exact Nat.le_of_eq rfl) (hb hby at_100) (fun _ _ => ⟨rfl, rfl, (by decide : 0 + 1 + 1 + 1 + 1 + 1 + 0 ≤ _), (by decide : 0 + 10 + 10 + 10 + 10 + 10 + 0 ≤ _)⟩)
        dsimp only [Pt.U, Pt.locs, Pt.cells, Pt.slots] at X236 l236 y236 z236 st236 hQ236
        subst l236 y236 z236
        obtain ⟨rfl, Nq236, hh236⟩ := hQ236
        have N237 := Fr.app N230 Nq236
        refine go _ (T236.setTop (mkF m 103 #[.val (.long q1), .second, .val (.long q2), .second, .val (.long q3), .second, .val (.long q4), .second, .val (.long q5), .second, .val (.int p1), .val (.int (p1 &&& (3 : Int32))), .val (.ref b140), .val (.ref b143), .val (.ref b185), .val (.ref b190), .val (.ref b222), .unset] [(.int (1 : Int32))])) (st236) ?_
        refine go _ (T236.setTop (mkF m 105 #[.val (.long q1), .second, .val (.long q2), .second, .val (.long q3), .second, .val (.long q4), .second, .val (.long q5), .second, .val (.int p1), .val (.int (p1 &&& (3 : Int32))), .val (.ref b140), .val (.ref b143), .val (.ref b185), .val (.ref b190), .val (.ref b222), .val (.int (1 : Int32))] [])) (fun t k => XS.istore X236.here hx rfl (hb hby at_103) rfl (l' := #[.val (.long q1), .second, .val (.long q2), .second, .val (.long q3), .second, .val (.long q4), .second, .val (.long q5), .second, .val (.int p1), .val (.int (p1 &&& (3 : Int32))), .val (.ref b140), .val (.ref b143), .val (.ref b185), .val (.ref b190), .val (.ref b222), .val (.int (1 : Int32))]) rfl k) ?_
        refine go _ (T236.setTop (mkF m 107 #[.val (.long q1), .second, .val (.long q2), .second, .val (.long q3), .second, .val (.long q4), .second, .val (.long q5), .second, .val (.int p1), .val (.int (p1 &&& (3 : Int32))), .val (.ref b140), .val (.ref b143), .val (.ref b185), .val (.ref b190), .val (.ref b222), .val (.int (1 : Int32))] [(.ref b222)])) (fun t k => XS.aload X236.here hx rfl (hb hby at_105) rfl rfl k) ?_
        refine go _ (T236.setTop (mkF m 109 #[.val (.long q1), .second, .val (.long q2), .second, .val (.long q3), .second, .val (.long q4), .second, .val (.long q5), .second, .val (.int p1), .val (.int (p1 &&& (3 : Int32))), .val (.ref b140), .val (.ref b143), .val (.ref b185), .val (.ref b190), .val (.ref b222), .val (.int (1 : Int32))] [(.ref b140), (.ref b222)])) (fun t k => XS.aload X236.here hx rfl (hb hby at_107) rfl rfl k) ?_
        refine go _ (T236.setTop (mkF m 112 #[.val (.long q1), .second, .val (.long q2), .second, .val (.long q3), .second, .val (.long q4), .second, .val (.long q5), .second, .val (.int p1), .val (.int (p1 &&& (3 : Int32))), .val (.ref b140), .val (.ref b143), .val (.ref b185), .val (.ref b190), .val (.ref b222), .val (.int (1 : Int32))] [])) (fun t k => Jvm.RoadKit.acmp (g := (mkF m 109 #[.val (.long q1), .second, .val (.long q2), .second, .val (.long q3), .second, .val (.long q4), .second, .val (.long q5), .second, .val (.int p1), .val (.int (p1 &&& (3 : Int32))), .val (.ref b140), .val (.ref b143), .val (.ref b185), .val (.ref b190), .val (.ref b222), .val (.int (1 : Int32))] [(.ref b140), (.ref b222)])) X236 hx rfl rfl rfl (pc0 := 109) (pc' := 112) (same := false) rfl (hb hby at_109) rfl (decide_eq_false fun q => (Ne.symm ne_b140_b222) (Value.ref.inj q)) (by decide) (by decide) k) ?_
        refine go _ (T236.setTop (mkF m 114 #[.val (.long q1), .second, .val (.long q2), .second, .val (.long q3), .second, .val (.long q4), .second, .val (.long q5), .second, .val (.int p1), .val (.int (p1 &&& (3 : Int32))), .val (.ref b140), .val (.ref b143), .val (.ref b185), .val (.ref b190), .val (.ref b222), .val (.int (1 : Int32))] [(.int (1 : Int32))])) (fun t k => XS.iload X236.here hx rfl (hb hby at_112) rfl k) ?_
        have hc238 : ¬ ((1 : Int32) = (0 : Int32)) := by decide
        refine go _ (T236.setTop (mkF m 117 #[.val (.long q1), .second, .val (.long q2), .second, .val (.long q3), .second, .val (.long q4), .second, .val (.long q5), .second, .val (.int p1), .val (.int (p1 &&& (3 : Int32))), .val (.ref b140), .val (.ref b143), .val (.ref b185), .val (.ref b190), .val (.ref b222), .val (.int (1 : Int32))] [])) (fun t k => XS.ifNo X236.here hx rfl (hb hby at_114) rfl ((if0 _ _).trans (feq hc238).1) k) ?_
        refine go _ (T236.setTop (mkF m 119 #[.val (.long q1), .second, .val (.long q2), .second, .val (.long q3), .second, .val (.long q4), .second, .val (.long q5), .second, .val (.int p1), .val (.int (p1 &&& (3 : Int32))), .val (.ref b140), .val (.ref b143), .val (.ref b185), .val (.ref b190), .val (.ref b222), .val (.int (1 : Int32))] [(.ref b140)])) (fun t k => XS.aload X236.here hx rfl (hb hby at_117) rfl rfl k) ?_
        refine go _ (T236.setTop (mkF m 121 #[.val (.long q1), .second, .val (.long q2), .second, .val (.long q3), .second, .val (.long q4), .second, .val (.long q5), .second, .val (.int p1), .val (.int (p1 &&& (3 : Int32))), .val (.ref b140), .val (.ref b143), .val (.ref b185), .val (.ref b190), .val (.ref b222), .val (.int (1 : Int32))] [(.ref b185), (.ref b140)])) (fun t k => XS.aload X236.here hx rfl (hb hby at_119) rfl rfl k) ?_
        obtain ⟨_, _, ⟨T239, L239, k239, n239⟩, -, X239, ⟨Lc239, hQ239, l239, y239, z239⟩, st239⟩ := Jvm.LawKit.callS X236 hx (y := (⟨"com/example/withhold/withhold/crypto/Field25519SubtractPinLaw", "same10", "([J[J)Z"⟩ : MethodName)) hown (mvT hZ (hw _ (List.mem_of_getElem? (i := 19) rfl))) (mvT hZ (hw _ (List.mem_of_getElem? (i := 20) rfl))) (mvT hZ (hw _ (List.mem_of_getElem? (i := 2) rfl))) (mvT hZ (hw _ (List.mem_of_getElem? (i := 21) rfl))) (by decide) (backOf (W := 0) (rm5 l Z a0 hw [] b140 b185 gf140 T229.heap n0 Z231 A232 A234) hZ (hw _ (List.mem_of_getElem? (i := 21) rfl)) (hw _ (List.mem_of_getElem? (i := 2) rfl)) (by decide) (by decide)) (g := (mkF m 121 #[.val (.long q1), .second, .val (.long q2), .second, .val (.long q3), .second, .val (.long q4), .second, .val (.long q5), .second, .val (.int p1), .val (.int (p1 &&& (3 : Int32))), .val (.ref b140), .val (.ref b143), .val (.ref b185), .val (.ref b190), .val (.ref b222), .val (.int (1 : Int32))] [(.ref b185), (.ref b140)])) rfl (by rw [hml]; rfl) (argsL := [(.ref b140), (.ref b185)]) (rest := []) (lenOf pd_5 rfl) rfl (by show 2 * 0 + _ ≤ _; exact Nat.le_of_eq rfl) (hb hby at_121) (fun _ _ => ⟨rfl, hh236, (by decide : 0 + 1 + 1 + 1 + 1 + 1 + 0 ≤ _), (by decide : 0 + 10 + 10 + 10 + 10 + 10 + 0 ≤ _)⟩)
        dsimp only [Pt.U, Pt.locs, Pt.cells, Pt.slots] at X239 l239 y239 z239 st239 hQ239
        subst l239 y239 z239
        obtain ⟨rfl, Nq239, hh239⟩ := hQ239
        have N240 := Fr.app N237 Nq239
        refine go _ (T239.setTop (mkF m 124 #[.val (.long q1), .second, .val (.long q2), .second, .val (.long q3), .second, .val (.long q4), .second, .val (.long q5), .second, .val (.int p1), .val (.int (p1 &&& (3 : Int32))), .val (.ref b140), .val (.ref b143), .val (.ref b185), .val (.ref b190), .val (.ref b222), .val (.int (1 : Int32))] [(.int (1 : Int32))])) (st239) ?_
        have hc241 : ¬ ((1 : Int32) = (0 : Int32)) := by decide
        refine go _ (T239.setTop (mkF m 127 #[.val (.long q1), .second, .val (.long q2), .second, .val (.long q3), .second, .val (.long q4), .second, .val (.long q5), .second, .val (.int p1), .val (.int (p1 &&& (3 : Int32))), .val (.ref b140), .val (.ref b143), .val (.ref b185), .val (.ref b190), .val (.ref b222), .val (.int (1 : Int32))] [])) (fun t k => XS.ifNo X239.here hx rfl (hb hby at_124) rfl ((if0 _ _).trans (feq hc241).1) k) ?_
        refine go _ (T239.setTop (mkF m 128 #[.val (.long q1), .second, .val (.long q2), .second, .val (.long q3), .second, .val (.long q4), .second, .val (.long q5), .second, .val (.int p1), .val (.int (p1 &&& (3 : Int32))), .val (.ref b140), .val (.ref b143), .val (.ref b185), .val (.ref b190), .val (.ref b222), .val (.int (1 : Int32))] [(.int (1 : Int32))])) (fun t k => XS.iconst X239.here hx rfl (hb hby at_127) k) ?_
        refine go _ (T239.setTop (mkF m 132 #[.val (.long q1), .second, .val (.long q2), .second, .val (.long q3), .second, .val (.long q4), .second, .val (.long q5), .second, .val (.int p1), .val (.int (p1 &&& (3 : Int32))), .val (.ref b140), .val (.ref b143), .val (.ref b185), .val (.ref b190), .val (.ref b222), .val (.int (1 : Int32))] [(.int (1 : Int32))])) (fun t k => XS.goto X239.here hx rfl (pc0 := 128) (pc' := 132) rfl (hb hby at_128) (by decide) (by decide) k) ?_
        refine go _ (T239.setTop (mkF m 134 #[.val (.long q1), .second, .val (.long q2), .second, .val (.long q3), .second, .val (.long q4), .second, .val (.long q5), .second, .val (.int p1), .val (.int (p1 &&& (3 : Int32))), .val (.ref b140), .val (.ref b143), .val (.ref b185), .val (.ref b190), .val (.ref b222), .val (.int (1 : Int32))] [])) (fun t k => XS.istore X239.here hx rfl (hb hby at_132) rfl (l' := #[.val (.long q1), .second, .val (.long q2), .second, .val (.long q3), .second, .val (.long q4), .second, .val (.long q5), .second, .val (.int p1), .val (.int (p1 &&& (3 : Int32))), .val (.ref b140), .val (.ref b143), .val (.ref b185), .val (.ref b190), .val (.ref b222), .val (.int (1 : Int32))]) rfl k) ?_
        refine go _ (T239.setTop (mkF m 136 #[.val (.long q1), .second, .val (.long q2), .second, .val (.long q3), .second, .val (.long q4), .second, .val (.long q5), .second, .val (.int p1), .val (.int (p1 &&& (3 : Int32))), .val (.ref b140), .val (.ref b143), .val (.ref b185), .val (.ref b190), .val (.ref b222), .val (.int (1 : Int32))] [(.ref b222)])) (fun t k => XS.aload X239.here hx rfl (hb hby at_134) rfl rfl k) ?_
        refine go _ (T239.setTop (mkF m 138 #[.val (.long q1), .second, .val (.long q2), .second, .val (.long q3), .second, .val (.long q4), .second, .val (.long q5), .second, .val (.int p1), .val (.int (p1 &&& (3 : Int32))), .val (.ref b140), .val (.ref b143), .val (.ref b185), .val (.ref b190), .val (.ref b222), .val (.int (1 : Int32))] [(.ref b143), (.ref b222)])) (fun t k => XS.aload X239.here hx rfl (hb hby at_136) rfl rfl k) ?_
        refine go _ (T239.setTop (mkF m 141 #[.val (.long q1), .second, .val (.long q2), .second, .val (.long q3), .second, .val (.long q4), .second, .val (.long q5), .second, .val (.int p1), .val (.int (p1 &&& (3 : Int32))), .val (.ref b140), .val (.ref b143), .val (.ref b185), .val (.ref b190), .val (.ref b222), .val (.int (1 : Int32))] [])) (fun t k => Jvm.RoadKit.acmp (g := (mkF m 138 #[.val (.long q1), .second, .val (.long q2), .second, .val (.long q3), .second, .val (.long q4), .second, .val (.long q5), .second, .val (.int p1), .val (.int (p1 &&& (3 : Int32))), .val (.ref b140), .val (.ref b143), .val (.ref b185), .val (.ref b190), .val (.ref b222), .val (.int (1 : Int32))] [(.ref b143), (.ref b222)])) X239 hx rfl rfl rfl (pc0 := 138) (pc' := 141) (same := false) rfl (hb hby at_138) rfl (decide_eq_false fun q => (Ne.symm ne_b143_b222) (Value.ref.inj q)) (by decide) (by decide) k) ?_
        refine go _ (T239.setTop (mkF m 143 #[.val (.long q1), .second, .val (.long q2), .second, .val (.long q3), .second, .val (.long q4), .second, .val (.long q5), .second, .val (.int p1), .val (.int (p1 &&& (3 : Int32))), .val (.ref b140), .val (.ref b143), .val (.ref b185), .val (.ref b190), .val (.ref b222), .val (.int (1 : Int32))] [(.int (1 : Int32))])) (fun t k => XS.iload X239.here hx rfl (hb hby at_141) rfl k) ?_
        have hc242 : ¬ ((1 : Int32) = (0 : Int32)) := by decide
        refine go _ (T239.setTop (mkF m 146 #[.val (.long q1), .second, .val (.long q2), .second, .val (.long q3), .second, .val (.long q4), .second, .val (.long q5), .second, .val (.int p1), .val (.int (p1 &&& (3 : Int32))), .val (.ref b140), .val (.ref b143), .val (.ref b185), .val (.ref b190), .val (.ref b222), .val (.int (1 : Int32))] [])) (fun t k => XS.ifNo X239.here hx rfl (hb hby at_143) rfl ((if0 _ _).trans (feq hc242).1) k) ?_
        refine go _ (T239.setTop (mkF m 148 #[.val (.long q1), .second, .val (.long q2), .second, .val (.long q3), .second, .val (.long q4), .second, .val (.long q5), .second, .val (.int p1), .val (.int (p1 &&& (3 : Int32))), .val (.ref b140), .val (.ref b143), .val (.ref b185), .val (.ref b190), .val (.ref b222), .val (.int (1 : Int32))] [(.ref b143)])) (fun t k => XS.aload X239.here hx rfl (hb hby at_146) rfl rfl k) ?_
        refine go _ (T239.setTop (mkF m 150 #[.val (.long q1), .second, .val (.long q2), .second, .val (.long q3), .second, .val (.long q4), .second, .val (.long q5), .second, .val (.int p1), .val (.int (p1 &&& (3 : Int32))), .val (.ref b140), .val (.ref b143), .val (.ref b185), .val (.ref b190), .val (.ref b222), .val (.int (1 : Int32))] [(.ref b190), (.ref b143)])) (fun t k => XS.aload X239.here hx rfl (hb hby at_148) rfl rfl k) ?_
        obtain ⟨_, _, ⟨T243, L243, k243, n243⟩, -, X243, ⟨Lc243, hQ243, l243, y243, z243⟩, st243⟩ := Jvm.LawKit.callS X239 hx (y := (⟨"com/example/withhold/withhold/crypto/Field25519SubtractPinLaw", "same10", "([J[J)Z"⟩ : MethodName)) hown (mvT hZ (hw _ (List.mem_of_getElem? (i := 19) rfl))) (mvT hZ (hw _ (List.mem_of_getElem? (i := 20) rfl))) (mvT hZ (hw _ (List.mem_of_getElem? (i := 2) rfl))) (mvT hZ (hw _ (List.mem_of_getElem? (i := 21) rfl))) (by decide) (backOf (W := 0) (rm5 l Z a0 hw [] b143 b190 gf143 T229.heap n0 Z231 A233 A235) hZ (hw _ (List.mem_of_getElem? (i := 21) rfl)) (hw _ (List.mem_of_getElem? (i := 2) rfl)) (by decide) (by decide)) (g := (mkF m 150 #[.val (.long q1), .second, .val (.long q2), .second, .val (.long q3), .second, .val (.long q4), .second, .val (.long q5), .second, .val (.int p1), .val (.int (p1 &&& (3 : Int32))), .val (.ref b140), .val (.ref b143), .val (.ref b185), .val (.ref b190), .val (.ref b222), .val (.int (1 : Int32))] [(.ref b190), (.ref b143)])) rfl (by rw [hml]; rfl) (argsL := [(.ref b143), (.ref b190)]) (rest := []) (lenOf pd_5 rfl) rfl (by show 2 * 0 + _ ≤ _; exact Nat.le_of_eq rfl) (hb hby at_150) (fun _ _ => ⟨rfl, hh239, (by decide : 0 + 1 + 1 + 1 + 1 + 1 + 0 ≤ _), (by decide : 0 + 10 + 10 + 10 + 10 + 10 + 0 ≤ _)⟩)
        dsimp only [Pt.U, Pt.locs, Pt.cells, Pt.slots] at X243 l243 y243 z243 st243 hQ243
        subst l243 y243 z243
        obtain ⟨rfl, Nq243, hh243⟩ := hQ243
        have N244 := Fr.app N240 Nq243
        refine go _ (T243.setTop (mkF m 153 #[.val (.long q1), .second, .val (.long q2), .second, .val (.long q3), .second, .val (.long q4), .second, .val (.long q5), .second, .val (.int p1), .val (.int (p1 &&& (3 : Int32))), .val (.ref b140), .val (.ref b143), .val (.ref b185), .val (.ref b190), .val (.ref b222), .val (.int (1 : Int32))] [(.int (1 : Int32))])) (st243) ?_
        have hc245 : ¬ ((1 : Int32) = (0 : Int32)) := by decide
        refine go _ (T243.setTop (mkF m 156 #[.val (.long q1), .second, .val (.long q2), .second, .val (.long q3), .second, .val (.long q4), .second, .val (.long q5), .second, .val (.int p1), .val (.int (p1 &&& (3 : Int32))), .val (.ref b140), .val (.ref b143), .val (.ref b185), .val (.ref b190), .val (.ref b222), .val (.int (1 : Int32))] [])) (fun t k => XS.ifNo X243.here hx rfl (hb hby at_153) rfl ((if0 _ _).trans (feq hc245).1) k) ?_
        refine go _ (T243.setTop (mkF m 157 #[.val (.long q1), .second, .val (.long q2), .second, .val (.long q3), .second, .val (.long q4), .second, .val (.long q5), .second, .val (.int p1), .val (.int (p1 &&& (3 : Int32))), .val (.ref b140), .val (.ref b143), .val (.ref b185), .val (.ref b190), .val (.ref b222), .val (.int (1 : Int32))] [(.int (1 : Int32))])) (fun t k => XS.iconst X243.here hx rfl (hb hby at_156) k) ?_
        refine go _ (T243.setTop (mkF m 161 #[.val (.long q1), .second, .val (.long q2), .second, .val (.long q3), .second, .val (.long q4), .second, .val (.long q5), .second, .val (.int p1), .val (.int (p1 &&& (3 : Int32))), .val (.ref b140), .val (.ref b143), .val (.ref b185), .val (.ref b190), .val (.ref b222), .val (.int (1 : Int32))] [(.int (1 : Int32))])) (fun t k => XS.goto X243.here hx rfl (pc0 := 157) (pc' := 161) rfl (hb hby at_157) (by decide) (by decide) k) ?_
        refine go _ (T243.setTop (mkF m 163 #[.val (.long q1), .second, .val (.long q2), .second, .val (.long q3), .second, .val (.long q4), .second, .val (.long q5), .second, .val (.int p1), .val (.int (p1 &&& (3 : Int32))), .val (.ref b140), .val (.ref b143), .val (.ref b185), .val (.ref b190), .val (.ref b222), .val (.int (1 : Int32))] [])) (fun t k => XS.istore X243.here hx rfl (hb hby at_161) rfl (l' := #[.val (.long q1), .second, .val (.long q2), .second, .val (.long q3), .second, .val (.long q4), .second, .val (.long q5), .second, .val (.int p1), .val (.int (p1 &&& (3 : Int32))), .val (.ref b140), .val (.ref b143), .val (.ref b185), .val (.ref b190), .val (.ref b222), .val (.int (1 : Int32))]) rfl k) ?_
        refine go _ (T243.setTop (mkF m 165 #[.val (.long q1), .second, .val (.long q2), .second, .val (.long q3), .second, .val (.long q4), .second, .val (.long q5), .second, .val (.int p1), .val (.int (p1 &&& (3 : Int32))), .val (.ref b140), .val (.ref b143), .val (.ref b185), .val (.ref b190), .val (.ref b222), .val (.int (1 : Int32))] [(.int (1 : Int32))])) (fun t k => XS.iload X243.here hx rfl (hb hby at_163) rfl k) ?_
        exact fin (some (.int (1 : Int32))) X243 (by decide) (by decide) (fun q => by cases q) (show Q_rm0 Z q1 q2 q3 q4 q5 p1 h0 n0 _ T243.heap _ from (by rw [hh243]; exact ⟨rfl, N244⟩)) (fun fs hr => retN X243 hx (t := .boolean) hret (by simp) (hb hby at_165) hr)
set_option maxRecDepth 65536 in
set_option maxHeartbeats 40000000 in
theorem comes_1 {Post : Tables → Env → Array Value → State → Outcome → State → Prop} (hpost : ∀ tb e args s v u, (limb_1_1.after args s (.returned v) u = true ∧ limb_1_2.after args s (.returned v) u = true ∧ True) → FrameEnd s (.returned v) u (Jvm.fieldLocs frame_1_writes args s ++ Jvm.arrayLocs frame_1_arrays args s ++ Jvm.staticLocs frame_1_statics s) 24 192 → Post tb e args s (.returned v) u) :
    ArmFor flags0 classFile x code maxLocals ret World_1 tables_1 room_1 Calls_1 rest_1 Pre_1 Post := by
  intro l hfl _ _ p e ha hc hk s m args below hf hA hF happ hP
  obtain ⟨hcalls, hrest, hpre⟩ := hP
  obtain ⟨-, -, -, hnamed, -, -, -, hat⟩ := (Spec.applies_iff hf).mp happ
  obtain ⟨hg, hn⟩ := and_e (Cond.before_iff.mp (show (Jvm.Cond.and given_1 narrow_1).before args s = true from hpre))
  obtain ⟨gc, g1⟩ := and_e hg
  obtain ⟨ga0, g2⟩ := and_e g1
  obtain ⟨ga1, g3⟩ := and_e g2
  obtain ⟨ga2, g4⟩ := and_e g3
  obtain ⟨ga3, g5⟩ := and_e g4
  obtain ⟨ga4, g6⟩ := and_e g5
  have ga5 := g6
  obtain ⟨w0, w1, w2, w3, w4, w5, rfl⟩ : ∃ w0 w1 w2 w3 w4 w5 : Value, args = #[w0, w1, w2, w3, w4, w5] := by
    have hs : args.size = 6 := by simpa [Cond.value, given_1] using gc
    obtain ⟨L⟩ := args
    match L, hs with
    | [w0, w1, w2, w3, w4, w5], _ => exact ⟨w0, w1, w2, w3, w4, w5, rfl⟩
  have hw := fun d (hd : d ∈ tables_1) => atoms_spec (ws := Jvm.Cond.code x code maxLocals ret :: tables_1) hat d (List.mem_cons_of_mem _ hd)
  obtain ⟨i0, ei0⟩ := isL_v ga0
  obtain rfl : w0 = (.long i0) := Option.some.inj ei0
  obtain ⟨i1, ei1⟩ := isL_v ga1
  obtain rfl : w1 = (.long i1) := Option.some.inj ei1
  obtain ⟨i2, ei2⟩ := isL_v ga2
  obtain rfl : w2 = (.long i2) := Option.some.inj ei2
  obtain ⟨i3, ei3⟩ := isL_v ga3
  obtain rfl : w3 = (.long i3) := Option.some.inj ei3
  obtain ⟨i4, ei4⟩ := isL_v ga4
  obtain rfl : w4 = (.long i4) := Option.some.inj ei4
  obtain ⟨i5, ei5⟩ := is_v ga5
  obtain rfl : w5 = (.int i5) := Option.some.inj ei5
  obtain ⟨n, o, h1, h2, h3, _, L, rfl, ⟨rfl, N⟩, hq⟩ := rm0 l s _ hw tables_1 i0 i1 i2 i3 i4 i5 s.heap s.heap.size (Nat.le_refl _) p e ha hc hk s m _ below hf ((Spec.applies_iff_loose hf).mp happ).1 ⟨rfl, State.Warmed39.refl s, rfl⟩ trivial
  refine ⟨n, _, h1, h2, h3, hpost _ _ _ _ _ _ ⟨Cond.after_iff.mpr rfl, Cond.after_iff.mpr (eq_i res_at (Term.int_eval (1)) rfl), trivial⟩ ⟨hq.1, hq.2.1, (hq.2.2.sift fun y hy => Or.inr (N y hy)).mono (by decide) (by decide)⟩⟩
theorem main_1_1 : Claimed_1_1 := comes_1 fun _ _ _ _ _ _ h hF => ⟨h.1, hF⟩
theorem main_1_2 : Claimed_1_2 := comes_1 fun _ _ _ _ _ _ h hF => ⟨h.2.1, hF⟩
end Jvm.Pilot.@@N@@
namespace Jvm.Pilot.@@N@@
open Jvm Jvm.ClassFile Sem Op Lib Jvm.Free Jvm.Stand Jvm.Pilot.@@N@@.Jvm.D
/-! MADE BY PROGRAM (witnessworld.py) out of the Statement's table words and the real class files: 11 classes; the members and pool entries that the words name. The judged class is class 1, her method 5. -/
namespace start1
open Jvm.ClassFile
def u (s : String) : CpInfo := .utf8 (stringToUtf16 s)
/-- a pool by its gaps: so many unusable entries, then the entry; so many at the end -/
def gap : Nat → List CpInfo → List CpInfo
  | 0, r => r
  | n + 1, r => .unusable :: gap n r
def poolList (es : List (Nat × CpInfo)) (last : Nat) : List CpInfo := es.foldr (fun e r => gap e.1 (e.2 :: r)) (gap last [])
def pool (es : List (Nat × CpInfo)) (last : Nat) : Array CpInfo := ⟨poolList es last⟩
def fileOf (pool : Array CpInfo) (this : Nat) (attrs : Array Attribute := #[]) (ms : Array MethodInfo := #[]) (fl : Nat := 33) (sup : Nat := 0) (ifs : Array Nat := #[]) (fds : Array FieldInfo := #[]) : ClassFile where
  minorVersion := 0
  majorVersion := 65
  constantPool := pool
  accessFlags := fl
  thisClass := this
  superClass := sup
  interfaces := ifs
  fields := fds
  methods := ms
  attributes := attrs
def plain (name : String) (sup : Option ClassId) : Class where
  name := name
  kind := .ordinary
  loader := none
  accessFlags := 33
  super := sup
  interfaces := #[]
  cf := none
  fields := #[]
  methods := #[]
  instanceTypes := #[]
  staticTypes := #[]
  resolved := #[]
  callSites := []
  init := .initialized
  statics := none
  mirror := none

def pool0 : Array CpInfo := pool [(5, u "<init>"), (0, u "()V"), (1, .class_ 10), (1, u "java/lang/Object")] 113

def k0m0 : Method := { name := "<init>", desc := "()V", sig := { parameters := [], returnType := none }, accessFlags := 1, code := none }
/-- java/lang/Object -/
def k0 : Class := { plain "java/lang/Object" none with
  accessFlags := 33
  interfaces := #[]
  cf := some (fileOf pool0 8 #[] #[{ accessFlags := 1, nameIndex := 5, descriptorIndex := 6, attributes := #[] }] 33 0 #[] #[])
  fields := #[]
  methods := #[k0m0]
  instanceTypes := #[]
  staticTypes := #[]
  resolved := Array.replicate 124 none
  statics := none }

def pool1 : Array CpInfo := pool [(2, .class_ 4), (1, u "java/lang/Object"), (0, u "<init>"), (0, u "()V"), (0, .long 3), (1, .long 5), (1, .long 18446744073709551615), (1, .long 7), (1, .methodref 16 17), (0, .class_ 18), (0, .nameAndType 19 20), (0, u "com/example/withhold/withhold/crypto/Field25519SubtractPinLaw"), (0, u "fill"), (0, u "(JJ)[J"), (0, .methodref 16 22), (0, .nameAndType 23 24), (0, u "copy10"), (0, u "([J)[J"), (0, .methodref 26 27), (0, .class_ 28), (0, .nameAndType 29 30), (0, u "com/example/withhold/withhold/crypto/Field25519"), (0, u "subtract"), (0, u "([J[J[J)V"), (0, .methodref 16 32), (0, .nameAndType 33 34), (0, u "backToF"), (0, u "([J[J[J)Z"), (0, .methodref 16 36), (0, .nameAndType 37 38), (0, u "same10"), (0, u "([J[J)Z"), (3, u "law"), (0, u "(JJJJJI)Z")] 4

def k1m0 : Method := { name := "<init>", desc := "()V", sig := { parameters := [], returnType := none }, accessFlags := 1, code := none }
def k1c1 : Code := { maxStack := 6, maxLocals := 5, code := method_2_code, exceptionTable := #[], attributes := #[] }
def k1m1 : Method := { name := "fill", desc := "(JJ)[J", sig := { parameters := [.long, .long], returnType := some (.array .long) }, accessFlags := 10, code := some k1c1 }
def k1c2 : Code := { maxStack := 4, maxLocals := 2, code := method_3_code, exceptionTable := #[], attributes := #[] }
def k1m2 : Method := { name := "copy10", desc := "([J)[J", sig := { parameters := [(.array .long)], returnType := some (.array .long) }, accessFlags := 10, code := some k1c2 }
def k1c3 : Code := { maxStack := 4, maxLocals := 2, code := method_4_code, exceptionTable := #[], attributes := #[] }
def k1m3 : Method := { name := "same10", desc := "([J[J)Z", sig := { parameters := [(.array .long), (.array .long)], returnType := some .boolean }, accessFlags := 10, code := some k1c3 }
def k1c4 : Code := { maxStack := 4, maxLocals := 3, code := method_5_code, exceptionTable := #[], attributes := #[] }
def k1m4 : Method := { name := "backToF", desc := "([J[J[J)Z", sig := { parameters := [(.array .long), (.array .long), (.array .long)], returnType := some .boolean }, accessFlags := 10, code := some k1c4 }
def k1c5 : Code := { maxStack := 6, maxLocals := 18, code := code, exceptionTable := #[], attributes := #[] }
def k1m5 : Method := { name := "law", desc := "(JJJJJI)Z", sig := { parameters := [.long, .long, .long, .long, .long, .int], returnType := some .boolean }, accessFlags := 9, code := some k1c5 }
/-- com/example/withhold/withhold/crypto/Field25519SubtractPinLaw -/
def k1 : Class := { plain "com/example/withhold/withhold/crypto/Field25519SubtractPinLaw" (some 0) with
  accessFlags := 49
  interfaces := #[]
  cf := some (fileOf pool1 16 #[] #[{ accessFlags := 1, nameIndex := 5, descriptorIndex := 6, attributes := #[] }, { accessFlags := 10, nameIndex := 19, descriptorIndex := 20, attributes := #[] }, { accessFlags := 10, nameIndex := 23, descriptorIndex := 24, attributes := #[] }, { accessFlags := 10, nameIndex := 37, descriptorIndex := 38, attributes := #[] }, { accessFlags := 10, nameIndex := 33, descriptorIndex := 34, attributes := #[] }, { accessFlags := 9, nameIndex := 42, descriptorIndex := 43, attributes := #[] }] 49 2 #[] #[])
  fields := #[]
  methods := #[k1m0, k1m1, k1m2, k1m3, k1m4, k1m5]
  instanceTypes := #[]
  staticTypes := #[]
  resolved := Array.replicate 48 none
  statics := none }

def pool2 : Array CpInfo := pool [(2, .class_ 4), (1, u "java/lang/Object"), (0, u "<init>"), (0, u "()V"), (0, .class_ 8), (0, u "com/example/withhold/withhold/crypto/Field25519"), (41, u "([J[J[J)V"), (16, u "P_MINUS_2"), (0, u "Ljava/math/BigInteger;"), (6, u "subtract"), (30, u "P"), (3, u "LIMBS"), (0, u "I"), (2, u "MASK_26"), (0, u "J"), (0, u "MASK_25")] 20

def k2m0 : Method := { name := "<init>", desc := "()V", sig := { parameters := [], returnType := none }, accessFlags := 2, code := none }
def k2c1 : Code := { maxStack := 6, maxLocals := 4, code := prog_4_method_8_code, exceptionTable := #[], attributes := #[] }
def k2m1 : Method := { name := "subtract", desc := "([J[J[J)V", sig := { parameters := [(.array .long), (.array .long), (.array .long)], returnType := none }, accessFlags := 8, code := some k2c1 }
/-- com/example/withhold/withhold/crypto/Field25519 -/
def k2 : Class := { plain "com/example/withhold/withhold/crypto/Field25519" (some 0) with
  accessFlags := 48
  interfaces := #[]
  cf := some (fileOf pool2 7 #[] #[{ accessFlags := 2, nameIndex := 5, descriptorIndex := 6, attributes := #[] }, { accessFlags := 8, nameIndex := 75, descriptorIndex := 50, attributes := #[] }] 48 2 #[] #[{ accessFlags := 24, nameIndex := 110, descriptorIndex := 111, attributes := #[] }, { accessFlags := 24, nameIndex := 106, descriptorIndex := 68, attributes := #[] }, { accessFlags := 26, nameIndex := 114, descriptorIndex := 115, attributes := #[] }, { accessFlags := 26, nameIndex := 116, descriptorIndex := 115, attributes := #[] }, { accessFlags := 26, nameIndex := 67, descriptorIndex := 68, attributes := #[] }])
  fields := #[{ name := "LIMBS", type := .int, accessFlags := 24, slot := 0, constantValue := 0 }, { name := "P", type := (.object "java/math/BigInteger"), accessFlags := 24, slot := 1, constantValue := 0 }, { name := "MASK_26", type := .long, accessFlags := 26, slot := 2, constantValue := 0 }, { name := "MASK_25", type := .long, accessFlags := 26, slot := 3, constantValue := 0 }, { name := "P_MINUS_2", type := (.object "java/math/BigInteger"), accessFlags := 26, slot := 4, constantValue := 0 }]
  methods := #[k2m0, k2m1]
  instanceTypes := #[]
  staticTypes := #[.int, (.object "java/math/BigInteger"), .long, .long, (.object "java/math/BigInteger")]
  resolved := Array.replicate 137 none
  statics := none }

def pool3 : Array CpInfo := pool [(1, u "java/lang/Cloneable"), (0, .class_ 1), (0, u "java/lang/Object"), (0, .class_ 3)] 3

/-- java/lang/Cloneable -/
def k3 : Class := { plain "java/lang/Cloneable" (some 0) with
  accessFlags := 1537
  interfaces := #[]
  cf := some (fileOf pool3 2 #[] #[] 1537 4 #[] #[])
  fields := #[]
  methods := #[]
  instanceTypes := #[]
  staticTypes := #[]
  resolved := Array.replicate 8 none
  statics := none }

def pool4 : Array CpInfo := pool [(1, u "java/io/Serializable"), (0, .class_ 1), (0, u "java/lang/Object"), (0, .class_ 3)] 3

/-- java/io/Serializable -/
def k4 : Class := { plain "java/io/Serializable" (some 0) with
  accessFlags := 1537
  interfaces := #[]
  cf := some (fileOf pool4 2 #[] #[] 1537 4 #[] #[])
  fields := #[]
  methods := #[]
  instanceTypes := #[]
  staticTypes := #[]
  resolved := Array.replicate 8 none
  statics := none }

/-- the primitive byte -/
def k5 : Class := { plain "byte" none with kind := .primitive 'B', accessFlags := 0x411 }
/-- [B -/
def k6 : Class := { plain "[B" (some 0) with kind := .array 5 .byte, interfaces := #[3, 4], accessFlags := 1041 }

/-- the primitive int -/
def k7 : Class := { plain "int" none with kind := .primitive 'I', accessFlags := 0x411 }
/-- [I -/
def k8 : Class := { plain "[I" (some 0) with kind := .array 7 .int, interfaces := #[3, 4], accessFlags := 1041 }

/-- the primitive long -/
def k9 : Class := { plain "long" none with kind := .primitive 'J', accessFlags := 0x411 }
/-- [J -/
def k10 : Class := { plain "[J" (some 0) with kind := .array 9 .long, interfaces := #[3, 4], accessFlags := 1041 }

def heap : Heap := #[]
def classes : Array Class := #[k0, k1, k2, k3, k4, k5, k6, k7, k8, k9, k10]
def interned : List (Array UInt16 × Addr) := []
def slotsUsed : Nat := 0
def theMethod : MethodId := ⟨1, 5⟩
def args0 : Array Value := #[.long 5, .long 6, .long 7, .long 8, .long 9, .int 2]
def aboutOver (below : List Frame) : State where
  vm := { classes := classes, interned := interned.toArray }
  heap := heap
  slotsUsed := slotsUsed
  threads := #[{ frames := .invoking theMethod args0 :: below }]
def below0 : List Frame := [.native { method := ⟨0, 0⟩, args := #[] }]
def about1 : State := aboutOver below0
def p0 : Program := .bare "" "" ""
def e0 : Env := launch0.env 0 0 0
theorem w_frames : about1.frames = Frame.invoking theMethod args0 :: below0 := rfl
set_option maxRecDepth 65536 in
theorem w_args : argsFit about1.vm theMethod args0 = true := by decide +kernel
set_option maxRecDepth 65536 in
theorem w_heap : heapFits about1 = true := by decide +kernel
set_option maxRecDepth 65536 in
theorem w_runnable : about1.curStatus? = some .runnable := by decide +kernel
set_option maxRecDepth 65536 in
theorem w_alone : about1.alone = true := by decide +kernel
set_option maxRecDepth 65536 in
theorem w_named : about1.methodNamed? x = some theMethod := by decide +kernel
set_option maxRecDepth 65536 in
theorem w_hears : about1.hears theMethod below0 = true := by decide +kernel
set_option maxRecDepth 65536 in
theorem w_ripe : about1.ripe theMethod args0 below0 = true := by decide +kernel
theorem w_running : about1.status = .running := rfl
set_option maxRecDepth 65536 in
theorem w_room : about1.hasRoom e0.platform room_1 = true :=
  launch0.hasRoom_least _ room_1 (by decide +kernel) (by decide +kernel) (by decide +kernel) (by decide +kernel) (by decide +kernel) (by decide +kernel)
theorem allAtoms_all (ts : List Jvm.Cond) (a : Array Jvm.Value) (st : Jvm.State) : (allAtoms ts).before a st = ts.all (fun c => c.before a st) := by
  induction ts with
  | nil => rfl
  | cons c t ih =>
    show (Jvm.Cond.and c (allAtoms t)).before a st = _
    rw [Jvm.Cond.before_and, ih, List.all_cons]
def words1 : List Jvm.Cond := Jvm.Cond.code x code maxLocals ret :: tables_1
/-- a 'code' word, met by the world's own term for the bytes: nothing is compared byte by byte -/
theorem code_word {y : MethodName} {bytes : ByteArray} {mx : Nat} {rt : Option FieldType} {a : Array Value} {s : State} {m : MethodId} {meth : Method} {c : Code} (h1 : s.methodNamed? y = some m) (h2 : s.vm.method? m = some meth) (h3 : meth.code = some c) (h4 : c.code = bytes)
    (h5 : (c.maxLocals == mx && c.exceptionTable.isEmpty && decide (c.maxStack ≤ mostOperands) && decide (meth.sig.returnType = rt) && !meth.locks && decide (parseMethodDescriptor y.desc = some meth.sig)) = true) : (Jvm.Cond.code y bytes mx rt).before a s = true := by
  simp only [Bool.and_eq_true, beq_iff_eq, Bool.not_eq_true', decide_eq_true_eq] at h5
  obtain ⟨⟨⟨⟨⟨g1, g2⟩, g3⟩, g4⟩, g5⟩, g6⟩ := h5
  simp [Cond.before, Cond.holds, Cond.value, h1, h2, h3, h4, g1, g2, g3, g4, g5, g6]
def isCode : Jvm.Cond → Bool
  | .code _ _ _ _ => true
  | _ => false
theorem all_split {L : List Jvm.Cond} {P : Jvm.Cond → Bool} (h1 : L.all (fun c => isCode c || P c) = true) (h2 : ∀ c ∈ L.filter isCode, P c = true) : L.all P = true := by
  refine List.all_eq_true.mpr fun c hc => ?_
  have h := List.all_eq_true.mp h1 c hc
  rcases Bool.eq_false_or_eq_true (isCode c) with hi | hi
  · exact h2 c (List.mem_filter.mpr ⟨hc, hi⟩)
  · simpa [hi] using h
set_option maxRecDepth 65536 in
theorem w_c0 : (Jvm.Cond.code x code maxLocals ret).before args0 about1 = true := code_word (m := ⟨1, 5⟩) (meth := k1m5) (c := k1c5) (by decide +kernel) rfl rfl rfl (by decide +kernel)
set_option maxRecDepth 65536 in
theorem w_c1 : (Jvm.Cond.code ({ cls := "com/example/withhold/withhold/crypto/Field25519SubtractPinLaw", name := "fill", desc := "(JJ)[J" } : Jvm.MethodName) method_2_code (5 : Nat) (Option.some (Jvm.ClassFile.FieldType.array Jvm.ClassFile.FieldType.long))).before args0 about1 = true := code_word (m := ⟨1, 1⟩) (meth := k1m1) (c := k1c1) (by decide +kernel) rfl rfl rfl (by decide +kernel)
set_option maxRecDepth 65536 in
theorem w_c2 : (Jvm.Cond.code ({ cls := "com/example/withhold/withhold/crypto/Field25519SubtractPinLaw", name := "copy10", desc := "([J)[J" } : Jvm.MethodName) method_3_code (2 : Nat) (Option.some (Jvm.ClassFile.FieldType.array Jvm.ClassFile.FieldType.long))).before args0 about1 = true := code_word (m := ⟨1, 2⟩) (meth := k1m2) (c := k1c2) (by decide +kernel) rfl rfl rfl (by decide +kernel)
set_option maxRecDepth 65536 in
theorem w_c3 : (Jvm.Cond.code ({ cls := "com/example/withhold/withhold/crypto/Field25519", name := "subtract", desc := "([J[J[J)V" } : Jvm.MethodName) prog_4_method_8_code (4 : Nat) (Option.none : Option Jvm.ClassFile.FieldType)).before args0 about1 = true := code_word (m := ⟨2, 1⟩) (meth := k2m1) (c := k2c1) (by decide +kernel) rfl rfl rfl (by decide +kernel)
set_option maxRecDepth 65536 in
theorem w_c4 : (Jvm.Cond.code ({ cls := "com/example/withhold/withhold/crypto/Field25519SubtractPinLaw", name := "backToF", desc := "([J[J[J)Z" } : Jvm.MethodName) method_5_code (3 : Nat) (Option.some Jvm.ClassFile.FieldType.boolean)).before args0 about1 = true := code_word (m := ⟨1, 4⟩) (meth := k1m4) (c := k1c4) (by decide +kernel) rfl rfl rfl (by decide +kernel)
set_option maxRecDepth 65536 in
theorem w_c5 : (Jvm.Cond.code ({ cls := "com/example/withhold/withhold/crypto/Field25519SubtractPinLaw", name := "same10", desc := "([J[J)Z" } : Jvm.MethodName) method_4_code (2 : Nat) (Option.some Jvm.ClassFile.FieldType.boolean)).before args0 about1 = true := code_word (m := ⟨1, 3⟩) (meth := k1m3) (c := k1c3) (by decide +kernel) rfl rfl rfl (by decide +kernel)
def codes1 : List Jvm.Cond := [Jvm.Cond.code x code maxLocals ret, Jvm.Cond.code ({ cls := "com/example/withhold/withhold/crypto/Field25519SubtractPinLaw", name := "fill", desc := "(JJ)[J" } : Jvm.MethodName) method_2_code (5 : Nat) (Option.some (Jvm.ClassFile.FieldType.array Jvm.ClassFile.FieldType.long)), Jvm.Cond.code ({ cls := "com/example/withhold/withhold/crypto/Field25519SubtractPinLaw", name := "copy10", desc := "([J)[J" } : Jvm.MethodName) method_3_code (2 : Nat) (Option.some (Jvm.ClassFile.FieldType.array Jvm.ClassFile.FieldType.long)), Jvm.Cond.code ({ cls := "com/example/withhold/withhold/crypto/Field25519", name := "subtract", desc := "([J[J[J)V" } : Jvm.MethodName) prog_4_method_8_code (4 : Nat) (Option.none : Option Jvm.ClassFile.FieldType), Jvm.Cond.code ({ cls := "com/example/withhold/withhold/crypto/Field25519SubtractPinLaw", name := "backToF", desc := "([J[J[J)Z" } : Jvm.MethodName) method_5_code (3 : Nat) (Option.some Jvm.ClassFile.FieldType.boolean), Jvm.Cond.code ({ cls := "com/example/withhold/withhold/crypto/Field25519SubtractPinLaw", name := "same10", desc := "([J[J)Z" } : Jvm.MethodName) method_4_code (2 : Nat) (Option.some Jvm.ClassFile.FieldType.boolean)]
set_option maxRecDepth 65536 in
theorem codes_eq : words1.filter isCode = codes1 := rfl
theorem w_codes : ∀ c ∈ words1.filter isCode, c.before args0 about1 = true := by
  rw [codes_eq]
  intro c hc
  simp only [codes1, List.mem_cons, List.not_mem_nil, or_false] at hc
  rcases hc with rfl | rfl | rfl | rfl | rfl | rfl
  · exact w_c0
  · exact w_c1
  · exact w_c2
  · exact w_c3
  · exact w_c4
  · exact w_c5
set_option maxRecDepth 65536 in
theorem w_t1 : words1.all (fun c => isCode c || c.before args0 about1) = true := by decide +kernel
theorem w_tables : (allAtoms (Jvm.Cond.code x code maxLocals ret :: tables_1)).before args0 about1 = true := by
  rw [allAtoms_all]
  show words1.all (fun c => c.before args0 about1) = true
  refine all_split ?_ w_codes
  rw [w_t1]
set_option maxRecDepth 65536 in
theorem w_case : (Jvm.Cond.and given_1 narrow_1).before args0 about1 = true := by decide +kernel
theorem w_applies : (headSpec (Jvm.Cond.code x code maxLocals ret :: tables_1) room_1).applies x e0.platform about1 = true :=
  (Spec.applies_iff w_frames).mpr ⟨w_running, w_runnable, w_alone, w_named, w_hears, w_ripe, w_room, w_tables⟩
theorem atStart : AtStart classFile x code maxLocals ret World_1 tables_1 room_1 Calls_1 rest_1 Pre_1 launch0 p0 e0 about1 theMethod args0 below0 :=
  ⟨lists_1, trivial, launch0.admits_env _ _ _, launch0.least_env, fairChoices_fair.cas, fairChoices_fair.clock, w_frames, w_args, w_heap, w_applies, trivial, trivial, w_case⟩
end start1
theorem witness_1 : WitnessClaimed_1 := ⟨start1.p0, start1.e0, start1.about1, start1.theMethod, start1.args0, start1.below0, start1.atStart⟩
end Jvm.Pilot.@@N@@
