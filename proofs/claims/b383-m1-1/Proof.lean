import JvmDerived
import JvmDerived.Pilot.@@N@@Statement
import JvmDerived.Pilot.@@N@@Code
set_option linter.unusedVariables false
set_option linter.unusedSimpArgs false
namespace Jvm.RoadKit
open Sem ClassFile Op Lib Jvm.Stand Jvm.Free Jvm.LawKit
section New
variable {p : Program} {l : Launch} {e : Env} {R : Room} {s : State} {m : MethodId} {args : Array Value} {below : List Frame} {meth : Method} {c : Code} {T : State} {locs : List Loc} {cells slots : Nat}
theorem retI (X : Stand p l e R s m args below meth c T locs cells slots) (hx : p.tables.exec = Jvm.exec) {pc : Nat} {Ls : Array Slot} {z : Int32} {rest : List Value} (hret : meth.sig.returnType = some .int) (hd : decode c.code pc = .ok (.ireturn, 1)) {fs : List Frame}
    (hl : ∀ (f : JFrame) (acts : List Action), f.method = m → f.locked = none → f.entered = [] → (doReturn e (T.setTop f) acts (some (.int z))).1 = T.setFrames fs) : Steps p.tables e below (T.setTop (mkF m pc Ls (.int z :: rest))) (T.setFrames fs) := by
  have hm' : T.vm.method? m = some meth := X.method'
  have hn : narrow .int (.int z) = .int z := rfl
  show Steps p.tables e below (T.setTop { method := m, pc := pc, locals := Ls, stack := _ :: rest, locked := none }) _
  jvm_step X.here [X.here.top, hx, hd, hm', hret, hn]
  first | (intro acts; rw [hl _ acts rfl rfl rfl]) | rw [hl _ _ rfl rfl rfl]
  exact Steps.refl _
theorem retJ (X : Stand p l e R s m args below meth c T locs cells slots) (hx : p.tables.exec = Jvm.exec) {pc : Nat} {Ls : Array Slot} {z : Int64} {rest : List Value} (hret : meth.sig.returnType = some .long) (hd : decode c.code pc = .ok (.lreturn, 1)) {fs : List Frame}
    (hl : ∀ (f : JFrame) (acts : List Action), f.method = m → f.locked = none → f.entered = [] → (doReturn e (T.setTop f) acts (some (.long z))).1 = T.setFrames fs) : Steps p.tables e below (T.setTop (mkF m pc Ls (.long z :: rest))) (T.setFrames fs) :=
  retOut X hx hret rfl (Or.inr (Or.inl ⟨rfl, rfl, z, rfl⟩)) hd hl
theorem retA (X : Stand p l e R s m args below meth c T locs cells slots) (hx : p.tables.exec = Jvm.exec) {pc : Nat} {Ls : Array Slot} {a : Addr} {t : FieldType} {rest : List Value} (hret : meth.sig.returnType = some t) (ht : t.isReference = true) (hd : decode c.code pc = .ok (.areturn, 1)) {fs : List Frame}
    (hl : ∀ (f : JFrame) (acts : List Action), f.method = m → f.locked = none → f.entered = [] → (doReturn e (T.setTop f) acts (some (.ref a))).1 = T.setFrames fs) : Steps p.tables e below (T.setTop (mkF m pc Ls (.ref a :: rest))) (T.setFrames fs) :=
  retOut X hx hret (by cases t <;> first | rfl | (simp [FieldType.isReference] at ht)) (Or.inr (Or.inr (Or.inr (Or.inr ⟨rfl, ht, rfl⟩)))) hd hl
end New
end Jvm.RoadKit
namespace Jvm.Pilot.@@N@@
open Jvm Jvm.ClassFile Sem Op Lib Jvm.Free Jvm.Stand Jvm.LawKit Jvm.RoadKit Bundle Jvm.Pilot.@@N@@.Jvm.D
section OwnKit
variable {p : Program} {l : Launch} {e : Env} {R : Room} {s : State} {m : MethodId} {args : Array Value} {below : List Frame} {meth : Method} {c : Code} {T : State} {locs : List Loc} {cells slots : Nat} {Z : State} {h h' : Heap}
/-- one body's contract, with the walk's goal as a closed predicate K: 'go' takes a step, 'fin' leaves the method -/
theorem own_body {y : MethodName} {bytes : ByteArray} {maxL : Nat} {ret : Option FieldType} {ws : List Jvm.Cond} {rm : Room} {h0 : Heap} {Q : Option Value → Heap → List Loc → Prop} (hp : plainFor y = true)
    (body : ∀ (p : Program) (e : Env) (s : State) (m : MethodId) (below : List Frame) (meth : Method) (c : Code) (s₁ : State) (K : State → Prop),
      (∀ U U', (∀ t, Steps p.tables e below U' t → Steps p.tables e below U t) → K U' → K U) →
      (∀ {T : State} {locs : List Loc} {cells slots : Nat} {g : JFrame} (v : Option Value), Stand p l e rm s m args below meth c T locs cells slots → cells ≤ rm.cells → slots ≤ rm.slots → (ret = none → v = none) → Q v T.heap locs →
        (∀ fs, (∀ (f : JFrame) (acts : List Action), f.method = m → f.locked = none → f.entered = [] → (doReturn e (T.setTop f) acts v).1 = T.setFrames fs) → Steps p.tables e below (T.setTop g) (T.setFrames fs)) → K (T.setTop g)) →
      Stand p l e rm s m args below meth c s₁ [] 0 0 → p.tables.exec = Jvm.exec → c.code = bytes → c.maxLocals = maxL → s.vm.findClass y.cls = some m.cls → meth.name = y.name → meth.sig.returnType = ret → Z.Warmed39 s.vm → s₁.heap = h0 → K (s₁.setTop (entryFrame m args maxL))) :
    MetFree l y (head1 (Jvm.Cond.code y bytes maxL ret :: ws) rm) (fun a U => a = args ∧ Z.Warmed39 U.vm ∧ U.heap = h0) (fun _ _ _ _ _ => True) (fun _ U o U' => ∃ v L, o = .returned v ∧ Q v U'.heap L ∧ FrameEnd U o U' L rm.cells rm.slots) := by
  refine MetFree.of_bodySF hp hisR ?_
  intro p e s m args' below meth c s₁ Bd hml hP hK
  obtain ⟨rfl, hZ, hh⟩ := hP
  refine body p e s m below meth c s₁ (fun U => ∃ s₂ o, Steps p.tables e below U s₂ ∧ s₂.status = .running ∧ Ended s₂ below o ∧ ∃ v L, o = .returned v ∧ Q v s₂.heap L ∧ FrameEnd s o s₂ L rm.cells rm.slots) ?_ ?_ (Stand.of_body Bd) Bd.exec Bd.bytes hml (findClass_of_methodNamed Bd.named) (name_of_methodNamed Bd.named Bd.method).1 Bd.returns hZ (by rw [← hh, Bd.state]; rfl)
  · rintro U U' st ⟨s₂, o, h1, h2⟩
    exact ⟨s₂, o, st _ h1, h2⟩
  · intro T locs cells slots g v X hc hs hv hQ hst
    obtain ⟨fs, hr, hrun, hended, hW, hsame⟩ := X.leave (v := v) (fun q => hv (Bd.returns ▸ q))
    exact ⟨_, _, hst fs hr, hrun, hended, v, locs, rfl, hQ, ⟨_, rfl⟩, hW, hsame.mono hc hs⟩
/-! Java's shifts and the narrowing to a byte -/
def jushr (x y : Int32) : Int32 := (x.toUInt32 >>> (y &&& 31).toUInt32).toInt32
def jshl (x y : Int32) : Int32 := x <<< (y &&& 31)
def jshr (x y : Int32) : Int32 := x >>> (y &&& 31)
def jushrL (x : Int64) (y : Int32) : Int64 := (x.toUInt64 >>> (y &&& 0x3f).toInt64.toUInt64).toInt64
def jshlL (x : Int64) (y : Int32) : Int64 := x <<< (y &&& 0x3f).toInt64
def jshrL (x : Int64) (y : Int32) : Int64 := x >>> (y &&& 0x3f).toInt64
def jb (x : Int32) : Int32 := x.toInt8.toInt32
theorem own_lrem {g : JFrame} {target : State} (X : Stand p l e R s m args below meth c T locs cells slots) (hx : p.tables.exec = Jvm.exec) (hg : g.method = m) {x y : Int64} {rest : List Value} (hd : decode c.code g.pc = .ok (.lrem, 1)) (hs : g.stack = .long y :: .long x :: rest) (hy : y ≠ 0)
    (hr : Steps p.tables e below (T.setTop { g with pc := g.pc + 1, stack := .long (x % y) :: rest }) target) : Steps p.tables e below (T.setTop g) target :=
  XS.lrem X.here hx hg hd hs hy (by rw [lrem_mod]; exact hr)
theorem own_narb (x : Int32) : nar .byte (jb x) = jb x := by simp [nar, jb]
/-! an array by its length and what its places hold -/
def own_upd (f : Nat → Value) (i : Nat) (v : Value) : Nat → Value := fun j => if j = i then v else f j
theorem own_hit (f : Nat → Value) (i : Nat) (v : Value) : own_upd f i v i = v := if_pos rfl
theorem own_miss {f : Nat → Value} {i j : Nat} {v : Value} (q : j ≠ i) : own_upd f i v j = f j := if_neg q
def AF (Z : State) (h : Heap) (a : Addr) (ty : FieldType) (n : Nat) (f : Nat → Value) : Prop := n < 2 ^ 31 ∧ ∃ c : Cell, Arr Z h a c ty ∧ c.slots.size = n ∧ ∀ j, j < n → c.slots[j]? = some (f j)
theorem AF.lt {a : Addr} {ty : FieldType} {n : Nat} {f : Nat → Value} (A : AF Z h a ty n f) : a < h.size := by obtain ⟨-, c, A, -⟩ := A; exact A.lt
theorem AF.ext {a : Addr} {ty : FieldType} {n : Nat} {f : Nat → Value} (A : AF Z h a ty n f) (E : Ext h h') : AF Z h' a ty n f := by obtain ⟨q, c, A, r⟩ := A; exact ⟨q, c, A.ext E, r⟩
theorem AF.other {a b : Addr} {sl : Nat} {v : Value} {ty : FieldType} {n : Nat} {f : Nat → Value} (A : AF Z h b ty n f) (W : Wr h h' a sl v) (q : b ≠ a) : AF Z h' b ty n f := by obtain ⟨q1, c, A, r⟩ := A; exact ⟨q1, c, A.other W q, r⟩
theorem AF.keep {a : Addr} {ws : List Addr} {ty : FieldType} {n : Nat} {f : Nat → Value} (A : AF Z h a ty n f) (K : Keep h h' ws) (q : a ∉ ws) : AF Z h' a ty n f := by obtain ⟨q1, c, A, r⟩ := A; exact ⟨q1, c, ⟨K.2.1 a c A.1 q, A.2⟩, r⟩
theorem AF.congr {a : Addr} {ty : FieldType} {n : Nat} {f f' : Nat → Value} (A : AF Z h a ty n f) (q : ∀ j, j < n → f j = f' j) : AF Z h a ty n f' := by obtain ⟨q1, c, A, S, r⟩ := A; exact ⟨q1, c, A, S, fun j hj => by rw [← q j hj]; exact r j hj⟩
theorem AF.len {a : Addr} {ty : FieldType} {n : Nat} {f : Nat → Value} (A : AF Z h a ty n f) : n < 2 ^ 31 := A.1
theorem own_idx {j : Int32} {i : Nat} (hj : j.toInt = (i : Int)) : j.toNatClampNeg = i := by simp only [Int32.toNatClampNeg, hj]; omega
theorem own_in {j : Int32} {i n : Nat} {c : Cell} (S : c.slots.size = n) (hj : j.toInt = (i : Int)) (hi : i < n) : ¬ (j < 0 ∨ c.slots.size ≤ j.toNatClampNeg) := by
  rw [own_idx hj, S, Int32.lt_iff_toInt_lt, hj]
  simp only [Int32.toInt_zero]
  omega
theorem own_set {a : Addr} {ty : FieldType} {n i : Nat} {f : Nat → Value} {cl : Cell} {v : Value} (q1 : n < 2 ^ 31) (A : Arr Z h a cl ty) (S : cl.slots.size = n) (H : ∀ j, j < n → cl.slots[j]? = some (f j)) (W : Wr h h' a i v) (hi : i < n) : AF Z h' a ty n (own_upd f i v) := by
  refine ⟨q1, _, A.same W, by rw [sz_set]; exact S, fun j hj => ?_⟩
  simp only [Cell.setSlot, own_upd]
  by_cases q : j = i
  · subst q; rw [if_pos rfl]; simp [S, hj]
  · rw [if_neg q, Array.getElem?_setIfInBounds_ne (fun z => q z.symm)]; exact H j hj
theorem own_stI (X : Stand p l e R s m args below meth c T locs cells slots) (hx : p.tables.exec = Jvm.exec) (hZ : Z.Warmed39 s.vm) (eT : T.heap = h) {a : Addr} {n i : Nat} {f : Nat → Value} (A : AF Z h a .int n f) {j x : Int32} (hj : j.toInt = (i : Int)) (hi : i < n) {g : JFrame} (hg : g.method = m) {rest : List Value} (hs : g.stack = .int x :: .int j :: .ref a :: rest) (hd : decode c.code g.pc = .ok (.iastore, 1)) :
    ∃ T' h', Stand p l e R s m args below meth c T' (locs ++ [⟨a, i⟩]) cells slots ∧ T'.heap = h' ∧ Wr h h' a i (.int x) ∧ AF Z h' a .int n (own_upd f i (.int x)) ∧ ∀ target, Steps p.tables e below (T'.setTop { g with pc := g.pc + 1, stack := rest }) target → Steps p.tables e below (T.setTop g) target := by
  obtain ⟨q1, cl, Ar, S, H⟩ := A
  obtain ⟨T', h', X', e', W, st⟩ := stI X hx hZ eT Ar (j := j) (own_in S hj hi) hg hs hd
  rw [own_idx hj] at X' W
  exact ⟨T', h', X', e', W, own_set q1 Ar S H W hi, st⟩
theorem own_stJ (X : Stand p l e R s m args below meth c T locs cells slots) (hx : p.tables.exec = Jvm.exec) (hZ : Z.Warmed39 s.vm) (eT : T.heap = h) {a : Addr} {n i : Nat} {f : Nat → Value} (A : AF Z h a .long n f) {j : Int32} {x : Int64} (hj : j.toInt = (i : Int)) (hi : i < n) {g : JFrame} (hg : g.method = m) {rest : List Value} (hs : g.stack = .long x :: .int j :: .ref a :: rest) (hd : decode c.code g.pc = .ok (.lastore, 1)) :
    ∃ T' h', Stand p l e R s m args below meth c T' (locs ++ [⟨a, i⟩]) cells slots ∧ T'.heap = h' ∧ Wr h h' a i (.long x) ∧ AF Z h' a .long n (own_upd f i (.long x)) ∧ ∀ target, Steps p.tables e below (T'.setTop { g with pc := g.pc + 1, stack := rest }) target → Steps p.tables e below (T.setTop g) target := by
  obtain ⟨q1, cl, Ar, S, H⟩ := A
  obtain ⟨T', h', X', e', W, st⟩ := stJ X hx hZ eT Ar (j := j) (own_in S hj hi) hg hs hd
  rw [own_idx hj] at X' W
  exact ⟨T', h', X', e', W, own_set q1 Ar S H W hi, st⟩
theorem own_stB (X : Stand p l e R s m args below meth c T locs cells slots) (hx : p.tables.exec = Jvm.exec) (hZ : Z.Warmed39 s.vm) (eT : T.heap = h) {a : Addr} {n i : Nat} {f : Nat → Value} (A : AF Z h a .byte n f) {j x : Int32} (hj : j.toInt = (i : Int)) (hi : i < n) (hn : nar .byte x = x) {g : JFrame} (hg : g.method = m) {rest : List Value} (hs : g.stack = .int x :: .int j :: .ref a :: rest) (hd : decode c.code g.pc = .ok (.bastore, 1)) :
    ∃ T' h', Stand p l e R s m args below meth c T' (locs ++ [⟨a, i⟩]) cells slots ∧ T'.heap = h' ∧ Wr h h' a i (.int x) ∧ AF Z h' a .byte n (own_upd f i (.int x)) ∧ ∀ target, Steps p.tables e below (T'.setTop { g with pc := g.pc + 1, stack := rest }) target → Steps p.tables e below (T.setTop g) target := by
  obtain ⟨q1, cl, Ar, S, H⟩ := A
  obtain ⟨T', h', X', e', W, st⟩ := stB X hx hZ eT Ar (j := j) (own_in S hj hi) hg hs hd
  rw [own_idx hj] at X' W
  rw [hn] at W
  exact ⟨T', h', X', e', W, own_set q1 Ar S H W hi, st⟩
theorem own_new (X : Stand p l e R s m args below meth c T locs cells slots) (hx : p.tables.exec = Jvm.exec) (hZ : Z.Warmed39 s.vm) {a0 : Array Value} {aty : ArrayType} (w : (Cond.arrayClass (newarray.typeOf aty)).before a0 Z = true) (eT : T.heap = h) {g : JFrame} (hg : g.method = m) (hd : decode c.code g.pc = .ok (.newarray aty, 2)) {n : Int32} {rest : List Value} (hs : g.stack = .int n :: rest)
    {k : Nat} (hn : n.toInt = (k : Int)) (cap : Nat) (hcap : k ≤ cap) (hb : cap * 8 ≤ 536870912) (hc : cells + 1 ≤ R.cells) (hl : slots + cap ≤ R.slots) :
    ∃ T' h' a, Stand p l e R s m args below meth c T' locs (cells + 1) (slots + cap) ∧ T'.heap = h' ∧ Ext h h' ∧ a = h.size ∧ AF Z h' a (newarray.typeOf aty) k (fun _ => defaultValue (newarray.typeOf aty)) ∧
      ∀ target, Steps p.tables e below (T'.setTop { g with pc := g.pc + 2, stack := .ref a :: rest }) target → Steps p.tables e below (T.setTop g) target := by
  have hn0 : ¬ n < 0 := by rw [Int32.lt_iff_toInt_lt, hn]; simp only [Int32.toInt_zero]; omega
  have hk : n.toNatClampNeg = k := own_idx hn
  have hk31 : k < 2 ^ 31 := by have := n.toInt_lt; omega
  obtain ⟨T', h', cA, X', e', E, A, st⟩ := newP X hx hZ w eT hg hd hs hn0 (by rw [hk]; exact hcap) hb hc hl
  refine ⟨T', h', h.size, X', e', E, rfl, ⟨hk31, _, A, by rw [sz_new, hk], fun j hj => ?_⟩, st⟩
  simp [newA, hk, hj]
theorem own_ldI (X : Stand p l e R s m args below meth c T locs cells slots) (hx : p.tables.exec = Jvm.exec) (hZ : Z.Warmed39 s.vm) (eT : T.heap = h) {a : Addr} {n i : Nat} {f : Nat → Value} (A : AF Z h a .int n f) {j : Int32} (hj : j.toInt = (i : Int)) (hi : i < n) {g : JFrame} (hg : g.method = m) {rest : List Value} (hs : g.stack = .int j :: .ref a :: rest) (hd : decode c.code g.pc = .ok (.iaload, 1)) {v : Value} (hv : f i = v) (target : State)
    (hr : Steps p.tables e below (T.setTop { g with pc := g.pc + 1, stack := v :: rest }) target) : Steps p.tables e below (T.setTop g) target := by
  obtain ⟨-, cl, Ar, S, H⟩ := A
  exact X.iaload hx (j := j) (v := v) (by rw [eT]; exact Ar.1) (State.isArrayOf_alike hZ.alike Ar.2.1) Ar.2.2 (own_in S hj hi) (by rw [own_idx hj, ← hv]; exact H i hi) hg hs hd target hr
theorem own_ldJ (X : Stand p l e R s m args below meth c T locs cells slots) (hx : p.tables.exec = Jvm.exec) (hZ : Z.Warmed39 s.vm) (eT : T.heap = h) {a : Addr} {n i : Nat} {f : Nat → Value} (A : AF Z h a .long n f) {j : Int32} (hj : j.toInt = (i : Int)) (hi : i < n) {g : JFrame} (hg : g.method = m) {rest : List Value} (hs : g.stack = .int j :: .ref a :: rest) (hd : decode c.code g.pc = .ok (.laload, 1)) {v : Value} (hv : f i = v) (target : State)
    (hr : Steps p.tables e below (T.setTop { g with pc := g.pc + 1, stack := v :: rest }) target) : Steps p.tables e below (T.setTop g) target := by
  obtain ⟨-, cl, Ar, S, H⟩ := A
  exact X.laload hx (j := j) (v := v) (by rw [eT]; exact Ar.1) (State.isArrayOf_alike hZ.alike Ar.2.1) Ar.2.2 (own_in S hj hi) (by rw [own_idx hj, ← hv]; exact H i hi) hg hs hd target hr
theorem own_ldB (X : Stand p l e R s m args below meth c T locs cells slots) (hx : p.tables.exec = Jvm.exec) (hZ : Z.Warmed39 s.vm) (eT : T.heap = h) {a : Addr} {n i : Nat} {f : Nat → Value} (A : AF Z h a .byte n f) {j : Int32} (hj : j.toInt = (i : Int)) (hi : i < n) {g : JFrame} (hg : g.method = m) {rest : List Value} (hs : g.stack = .int j :: .ref a :: rest) (hd : decode c.code g.pc = .ok (.baload, 1)) {v : Value} (hv : f i = v) (target : State)
    (hr : Steps p.tables e below (T.setTop { g with pc := g.pc + 1, stack := v :: rest }) target) : Steps p.tables e below (T.setTop g) target := by
  obtain ⟨-, cl, Ar, S, H⟩ := A
  exact X.baloadBytes hx (j := j) (v := v) (by rw [eT]; exact Ar.1) (State.isArrayOf_alike hZ.alike Ar.2.1) Ar.2.2 (own_in S hj hi) (by rw [own_idx hj, ← hv]; exact H i hi) hg hs hd target hr
theorem own_len (X : Stand p l e R s m args below meth c T locs cells slots) (hx : p.tables.exec = Jvm.exec) (hZ : Z.Warmed39 s.vm) (eT : T.heap = h) {a : Addr} {ty : FieldType} {n : Nat} {f : Nat → Value} (A : AF Z h a ty n f) {g : JFrame} (hg : g.method = m) {rest : List Value} (hs : g.stack = .ref a :: rest) (hd : decode c.code g.pc = .ok (.arraylength, 1)) (target : State)
    (hr : Steps p.tables e below (T.setTop { g with pc := g.pc + 1, stack := .int (Int32.ofNat n) :: rest }) target) : Steps p.tables e below (T.setTop g) target := by
  obtain ⟨-, cl, Ar, S, H⟩ := A
  refine X.arraylength hx (by rw [eT]; exact Ar.1) (State.isArrayOf_alike hZ.alike Ar.2.1) hg hs hd target ?_
  rw [S]; exact hr
end OwnKit
theorem pd_1 : parseMethodDescriptor "([BIJ)V" = some ⟨[(.array .byte), .int, .long], none⟩ := by decide +kernel
theorem pd_2 : parseMethodDescriptor "([B)[B" = some ⟨[(.array .byte)], some (.array .byte)⟩ := by decide +kernel
theorem pd_3 : parseMethodDescriptor "([BI)Z" = some ⟨[(.array .byte), .int], some .boolean⟩ := by decide +kernel
theorem pd_4 : parseMethodDescriptor "(I)Z" = some ⟨[.int], some .boolean⟩ := by decide +kernel
theorem pd_5 : parseMethodDescriptor "(JJ)J" = some ⟨[.long, .long], some .long⟩ := by decide +kernel
theorem pd_6 : parseMethodDescriptor "([BI)J" = some ⟨[(.array .byte), .int], some .long⟩ := by decide +kernel
section OwnSh
theorem own_bvushr (x y : Int32) : (jushr x y).toBitVec = x.toBitVec >>> (y.toBitVec.toNat % 32) := by
  have e : (jushr x y).toBitVec = x.toBitVec >>> ((y &&& 31).toUInt32 % 32).toBitVec.toNat := rfl
  have t : ((y &&& 31).toUInt32 % 32).toBitVec.toNat = y.toBitVec.toNat % 32 := by
    show (y.toBitVec &&& 31#32).toNat % 32 = _
    rw [BitVec.toNat_and]
    show (y.toBitVec.toNat &&& (2 ^ 5 - 1)) % 32 = _
    rw [Nat.and_two_pow_sub_one_eq_mod]
    omega
  rw [e, t]
theorem own_bvshl (x y : Int32) : (jshl x y).toBitVec = x.toBitVec <<< (y.toBitVec.toNat % 32) := by
  have e : (jshl x y).toBitVec = x.toBitVec <<< ((y &&& 31).toBitVec.smod 32).toNat := rfl
  rw [e, sm32 y _ rfl]
theorem own_bvshr (x y : Int32) : (jshr x y).toBitVec = x.toBitVec.sshiftRight (y.toBitVec.toNat % 32) := by
  have e : (jshr x y).toBitVec = x.toBitVec.sshiftRight ((y &&& 31).toBitVec.smod 32).toNat := rfl
  rw [e, sm32 y _ rfl]
theorem own_bvushrL (x : Int64) (y : Int32) : (jushrL x y).toBitVec = x.toBitVec >>> (y.toBitVec.toNat % 64) := by
  have e : (jushrL x y).toBitVec = x.toBitVec >>> ((y &&& 0x3f).toInt64.toBitVec % 64#64).toNat := rfl
  obtain ⟨h1, h2⟩ := sm64 y _ rfl
  have t : ((y &&& 0x3f).toInt64.toBitVec % 64#64).toNat = y.toBitVec.toNat % 64 := by
    rw [h1, BitVec.toNat_umod, BitVec.toNat_ofNat, BitVec.toNat_ofNat]
    show y.toBitVec.toNat % 64 % 18446744073709551616 % 64 = _
    omega
  rw [e, t]
theorem own_bvshlL (x : Int64) (y : Int32) : (jshlL x y).toBitVec = x.toBitVec <<< (y.toBitVec.toNat % 64) := by
  have e : (jshlL x y).toBitVec = x.toBitVec <<< ((y &&& 0x3f).toInt64.toBitVec.smod 64).toNat := rfl
  obtain ⟨h1, h2⟩ := sm64 y _ rfl
  rw [e, h1, smod64 _ h2]
theorem own_nat32 (y : Int32) (k : Nat) (h : y.toInt = (k : Int)) : y.toBitVec.toNat = k := by
  have a1 : y.toInt = if 2 * y.toBitVec.toNat < 2 ^ 32 then (y.toBitVec.toNat : Int) else (y.toBitVec.toNat : Int) - ((2 ^ 32 : Nat) : Int) := BitVec.toInt_eq_toNat_cond y.toBitVec
  have b := y.toBitVec.isLt
  generalize y.toBitVec.toNat = n at *
  split at a1 <;> omega
end OwnSh
def own_lb (v : Int64) : Nat → Int32
  | 0 => jb (v.toInt32)
  | 1 => jb ((jushrL v (8 : Int32)).toInt32)
  | 2 => jb ((jushrL v (16 : Int32)).toInt32)
  | 3 => jb ((jushrL v (24 : Int32)).toInt32)
  | 4 => jb ((jushrL v (32 : Int32)).toInt32)
  | 5 => jb ((jushrL v (40 : Int32)).toInt32)
  | 6 => jb ((jushrL v (48 : Int32)).toInt32)
  | 7 => jb ((jushrL v (56 : Int32)).toInt32)
  | _ => 0
def own_put (f : Nat → Int32) (o : Nat) (v : Int64) : Nat → Int32 := fun j => if o ≤ j ∧ j < o + 8 then own_lb v (j - o) else f j
theorem own_putc (f : Nat → Int32) (o : Nat) (v : Int64) (j : Nat) : (own_upd (own_upd (own_upd (own_upd (own_upd (own_upd (own_upd (own_upd (fun j => .int (f j)) o (.int (own_lb v 0))) (o + 1) (.int (own_lb v 1))) (o + 2) (.int (own_lb v 2))) (o + 3) (.int (own_lb v 3))) (o + 4) (.int (own_lb v 4))) (o + 5) (.int (own_lb v 5))) (o + 6) (.int (own_lb v 6))) (o + 7) (.int (own_lb v 7))) j = .int (own_put f o v j) := by
  have c : j < o ∨ o + 7 < j ∨ j = o ∨ j = o + 1 ∨ j = o + 2 ∨ j = o + 3 ∨ j = o + 4 ∨ j = o + 5 ∨ j = o + 6 ∨ j = o + 7 := by omega
  rcases c with c | c | c | c | c | c | c | c | c | c
  · rw [own_miss (by omega), own_miss (by omega), own_miss (by omega), own_miss (by omega), own_miss (by omega), own_miss (by omega), own_miss (by omega), own_miss (by omega)]
    unfold own_put
    rw [if_neg (by omega)]
  · rw [own_miss (by omega), own_miss (by omega), own_miss (by omega), own_miss (by omega), own_miss (by omega), own_miss (by omega), own_miss (by omega), own_miss (by omega)]
    unfold own_put
    rw [if_neg (by omega)]
  · subst c
    rw [own_miss (by omega), own_miss (by omega), own_miss (by omega), own_miss (by omega), own_miss (by omega), own_miss (by omega), own_miss (by omega), own_hit]
    unfold own_put
    rw [if_pos (by omega), Nat.sub_self]
  · subst c
    rw [own_miss (by omega), own_miss (by omega), own_miss (by omega), own_miss (by omega), own_miss (by omega), own_miss (by omega), own_hit]
    unfold own_put
    rw [if_pos (by omega), Nat.add_sub_cancel_left]
  · subst c
    rw [own_miss (by omega), own_miss (by omega), own_miss (by omega), own_miss (by omega), own_miss (by omega), own_hit]
    unfold own_put
    rw [if_pos (by omega), Nat.add_sub_cancel_left]
  · subst c
    rw [own_miss (by omega), own_miss (by omega), own_miss (by omega), own_miss (by omega), own_hit]
    unfold own_put
    rw [if_pos (by omega), Nat.add_sub_cancel_left]
  · subst c
    rw [own_miss (by omega), own_miss (by omega), own_miss (by omega), own_hit]
    unfold own_put
    rw [if_pos (by omega), Nat.add_sub_cancel_left]
  · subst c
    rw [own_miss (by omega), own_miss (by omega), own_hit]
    unfold own_put
    rw [if_pos (by omega), Nat.add_sub_cancel_left]
  · subst c
    rw [own_miss (by omega), own_hit]
    unfold own_put
    rw [if_pos (by omega), Nat.add_sub_cancel_left]
  · subst c
    rw [own_hit]
    unfold own_put
    rw [if_pos (by omega), Nat.add_sub_cancel_left]
theorem own_plus {x : Int32} {i : Nat} (h : x.toInt = (i : Int)) (k : Nat) (z : Int32) (hz : z.toInt = (k : Int)) (hb : i + k < 2 ^ 31) : (x + z).toInt = ((i + k : Nat) : Int) := by
  have a := c_iadd x z
  have r := rng32 (x + z)
  omega
theorem own_nat {i : Nat} (h : i < 2 ^ 31) : (Int32.ofNat i).toInt = (i : Int) := Int32.toInt_ofNat_small h
theorem own_nat1 {i : Nat} (h : i + 1 < 2 ^ 31) : (Int32.ofNat i + (1 : Int32)).toInt = ((i + 1 : Nat) : Int) := own_plus (own_nat (by omega)) 1 1 (by decide) h
theorem own_inc (i : Nat) : Int32.ofNat i + (1 : Int32) = Int32.ofNat (i + 1) := (inc_ofNat i).symm
theorem own_two {i : Nat} (h : i < 1000) : ((2 : Int32) * Int32.ofNat i).toInt = ((2 * i : Nat) : Int) := by
  have a := c_imul 2 (Int32.ofNat i)
  have r := rng32 ((2 : Int32) * Int32.ofNat i)
  rw [own_nat (by omega), show (2 : Int32).toInt = 2 from by decide] at a
  omega
theorem own_two1 {i : Nat} (h : i < 1000) : ((2 : Int32) * Int32.ofNat i + (1 : Int32)).toInt = ((2 * i + 1 : Nat) : Int) := own_plus (own_two h) 1 1 (by decide) (by omega)
theorem own_no32 {i : Nat} (h : i = 32) : ¬ (Int32.ofNat i < (32 : Int32)) := by subst h; decide
theorem own_yes32 {i : Nat} (h : i < 32) : Int32.ofNat i < (32 : Int32) := by rw [Int32.lt_iff_toInt_lt, own_nat (by omega), show (32 : Int32).toInt = 32 from by decide]; omega
theorem own_no63 {i : Nat} (h : i = 63) : ¬ (Int32.ofNat i < (63 : Int32)) := by subst h; decide
theorem own_yes63 {i : Nat} (h : i < 63) : Int32.ofNat i < (63 : Int32) := by rw [Int32.lt_iff_toInt_lt, own_nat (by omega), show (63 : Int32).toInt = 63 from by decide]; omega
theorem own_os3 {z0 z1 z2 : Value} {s3 : Slot} {v : Int32} (h : One s3) : storeLocals #[.val z0, .val z1, .val z2, s3] 3 (.int v) = some #[.val z0, .val z1, .val z2, .val (.int v)] := by
  rcases h with rfl | ⟨w, rfl, hw⟩
  · rfl
  · cases w <;> first | rfl | (simp [Value.category] at hw)
def own_updI (F : Nat → Int32) (p : Nat) (y : Int32) : Nat → Int32 := fun j => if j = p then y else F j
theorem own_updc (F : Nat → Int32) (p : Nat) (y : Int32) (j : Nat) : own_upd (fun j => .int (F j)) p (.int y) j = .int (own_updI F p y j) := by
  unfold own_upd own_updI
  by_cases q : j = p
  · rw [if_pos q, if_pos q]
  · rw [if_neg q, if_neg q]
def own_nb (s : Nat → Int32) (j : Nat) : Int := if j % 2 = 0 then (s (j / 2)).toInt % 16 else ((s (j / 2)).toInt / 16) % 16
theorem own_nbr (s : Nat → Int32) (j : Nat) : 0 ≤ own_nb s j ∧ own_nb s j ≤ 15 := by
  unfold own_nb
  split <;> omega
def own_k (n : Nat → Int) : Nat → Int
  | 0 => 0
  | j + 1 => (n j + own_k n j + 8) / 16
theorem own_kr {n : Nat → Int} (hn : ∀ j, 0 ≤ n j ∧ n j ≤ 15) (j : Nat) : 0 ≤ own_k n j ∧ own_k n j ≤ 1 := by
  induction j with
  | zero => show 0 ≤ (0 : Int) ∧ (0 : Int) ≤ 1; exact ⟨by decide, by decide⟩
  | succ j ih =>
    have h := hn j
    show 0 ≤ (n j + own_k n j + 8) / 16 ∧ (n j + own_k n j + 8) / 16 ≤ 1
    omega
def own_dg (n : Nat → Int) (j : Nat) : Int := n j + own_k n j - 16 * own_k n (j + 1)
theorem own_dgr {n : Nat → Int} (hn : ∀ j, 0 ≤ n j ∧ n j ≤ 15) (j : Nat) : -8 ≤ own_dg n j ∧ own_dg n j ≤ 7 := by
  have h := hn j
  have k := own_kr hn j
  show -8 ≤ n j + own_k n j - 16 * ((n j + own_k n j + 8) / 16) ∧ n j + own_k n j - 16 * ((n j + own_k n j + 8) / 16) ≤ 7
  omega
def own_stt (n : Nat → Int) (i j : Nat) : Int := if j < i then own_dg n j else if j = i then n j + own_k n j else n j
def own_fin (n : Nat → Int) (j : Nat) : Int := if j < 63 then own_dg n j else n j + own_k n j
theorem own_stt0 (n : Nat → Int) (j : Nat) : n j = own_stt n 0 j := by
  unfold own_stt
  rw [if_neg (by omega)]
  by_cases q : j = 0
  · rw [if_pos q, q]; show n 0 = n 0 + 0; omega
  · rw [if_neg q]
theorem own_stt63 {n : Nat → Int} {i j : Nat} (hi : i = 63) (hj : j < 64) : own_stt n i j = own_fin n j := by
  subst hi
  unfold own_stt own_fin
  by_cases q : j < 63
  · rw [if_pos q, if_pos q]
  · rw [if_neg q, if_neg q, if_pos (by omega)]
theorem own_m15 (x : Int32) : (jb (x &&& (15 : Int32))).toInt = x.toInt % 16 := by
  have m := c_mask x 15 4 (by decide) (by decide +kernel)
  have b := c_i2b (x &&& (15 : Int32))
  have e : (jb (x &&& (15 : Int32))).toInt = (x &&& (15 : Int32)).toInt8.toInt32.toInt := rfl
  omega
theorem own_h4 (x : Int32) : (jb ((jshr x (4 : Int32)) &&& (15 : Int32))).toInt = (x.toInt / 16) % 16 := by
  have s : (jshr x (4 : Int32)).toInt = x.toInt / ((2 ^ 4 : Nat) : Int) := c_ishr x 4 4 (by decide +kernel)
  rw [own_m15, s]; rfl
theorem own_turn1 {s F : Nat → Int32} {i : Nat} (hF : ∀ j, j < 2 * i → (F j).toInt = own_nb s j) : ∀ j, j < 2 * (i + 1) → (own_updI (own_updI F (2 * i) (jb ((s i) &&& (15 : Int32)))) (2 * i + 1) (jb ((jshr (s i) (4 : Int32)) &&& (15 : Int32))) j).toInt = own_nb s j := by
  intro j hj
  unfold own_updI
  by_cases a : j = 2 * i + 1
  · rw [if_pos a, own_h4]; unfold own_nb; rw [if_neg (by omega), show j / 2 = i by omega]
  · rw [if_neg a]
    by_cases b : j = 2 * i
    · rw [if_pos b, own_m15]; unfold own_nb; rw [if_pos (by omega), show j / 2 = i by omega]
    · rw [if_neg b]; exact hF j (by omega)
theorem own_cy (x : Int32) (h0 : 0 ≤ x.toInt) (h1 : x.toInt ≤ 16) : (jshr (x + (8 : Int32)) (4 : Int32)).toInt = (x.toInt + 8) / 16 := by
  have a := c_iadd x 8
  have r := rng32 (x + 8)
  have s : (jshr (x + (8 : Int32)) (4 : Int32)).toInt = (x + (8 : Int32)).toInt / ((2 ^ 4 : Nat) : Int) := c_ishr (x + 8) 4 4 (by decide +kernel)
  have e : (8 : Int32).toInt = 8 := by decide
  omega
theorem own_jbs (x : Int32) (h0 : -128 ≤ x.toInt) (h1 : x.toInt ≤ 127) : (jb x).toInt = x.toInt := by
  have b := c_i2b x
  have e : (jb x).toInt = x.toInt8.toInt32.toInt := rfl
  omega
theorem own_d1 (x : Int32) (h0 : 0 ≤ x.toInt) (h1 : x.toInt ≤ 16) : (jb (x - (jb (jshl (jshr (x + (8 : Int32)) (4 : Int32)) (4 : Int32))))).toInt = x.toInt - 16 * ((x.toInt + 8) / 16) := by
  have c := own_cy x h0 h1
  generalize jshr (x + (8 : Int32)) (4 : Int32) = y at *
  have s : ((jshl y (4 : Int32)).toInt - y.toInt * ((2 ^ 4 : Nat) : Int)) % 4294967296 = 0 := c_ishl y 4 4 (by decide +kernel)
  have r := rng32 (jshl y (4 : Int32))
  have e : (jshl y (4 : Int32)).toInt = 16 * y.toInt := by omega
  have j := own_jbs (jshl y (4 : Int32)) (by omega) (by omega)
  have d := c_isub x (jb (jshl y (4 : Int32)))
  have r2 := rng32 (x - jb (jshl y (4 : Int32)))
  rw [own_jbs _ (by omega) (by omega)]
  omega
theorem own_d2 (x y : Int32) (h0 : 0 ≤ x.toInt) (h1 : x.toInt ≤ 16) (g0 : 0 ≤ y.toInt) (g1 : y.toInt ≤ 15) : (jb (y + (jb (jshr (x + (8 : Int32)) (4 : Int32))))).toInt = y.toInt + (x.toInt + 8) / 16 := by
  have c := own_cy x h0 h1
  generalize jshr (x + (8 : Int32)) (4 : Int32) = z at *
  have j := own_jbs z (by omega) (by omega)
  have d := c_iadd y (jb z)
  have r2 := rng32 (y + jb z)
  rw [own_jbs _ (by omega) (by omega)]
  omega
theorem own_turn2 {n : Nat → Int} {G : Nat → Int32} {i : Nat} (hn : ∀ j, 0 ≤ n j ∧ n j ≤ 15) (hi : i < 63) (hG : ∀ j, j < 64 → (G j).toInt = own_stt n i j) :
    ∀ j, j < 64 → (own_updI (own_updI G i (jb ((G i) - (jb (jshl (jshr ((G i) + (8 : Int32)) (4 : Int32)) (4 : Int32)))))) (i + 1) (jb (((own_updI G i (jb ((G i) - (jb (jshl (jshr ((G i) + (8 : Int32)) (4 : Int32)) (4 : Int32)))))) (i + 1)) + (jb (jshr ((G i) + (8 : Int32)) (4 : Int32))))) j).toInt = own_stt n (i + 1) j := by
  have gi : (G i).toInt = n i + own_k n i := by rw [hG i (by omega)]; unfold own_stt; rw [if_neg (by omega), if_pos rfl]
  have gj : (G (i + 1)).toInt = n (i + 1) := by rw [hG (i + 1) (by omega)]; unfold own_stt; rw [if_neg (by omega), if_neg (by omega)]
  have kr := own_kr hn i
  have ni := hn i
  have nj := hn (i + 1)
  have e1 := own_d1 (G i) (by omega) (by omega)
  have e2 := own_d2 (G i) (G (i + 1)) (by omega) (by omega) (by omega) (by omega)
  have sk : own_k n (i + 1) = (n i + own_k n i + 8) / 16 := rfl
  have u1 : own_updI G i (jb ((G i) - (jb (jshl (jshr ((G i) + (8 : Int32)) (4 : Int32)) (4 : Int32))))) (i + 1) = G (i + 1) := if_neg (by omega)
  rw [u1]
  intro j hj
  unfold own_updI
  by_cases a : j = i + 1
  · rw [if_pos a, e2, a]; unfold own_stt; rw [if_neg (by omega), if_pos rfl, sk, gi, gj]
  · rw [if_neg a]
    by_cases b : j = i
    · rw [if_pos b, e1, b]; unfold own_stt own_dg; rw [if_pos (by omega), sk, gi]
    · rw [if_neg b, hG j hj]; unfold own_stt
      by_cases c : j < i
      · rw [if_pos c, if_pos (by omega)]
      · rw [if_neg c, if_neg b, if_neg (by omega), if_neg a]
theorem d1_0 : decode method_3_code 0 = .ok (.aload_n 0, 1) := by decide +kernel
theorem d1_1 : decode method_3_code 1 = .ok (.iload_n 1, 1) := by decide +kernel
theorem d1_2 : decode method_3_code 2 = .ok (.lload_n 2, 1) := by decide +kernel
theorem d1_3 : decode method_3_code 3 = .ok (.l2i, 1) := by decide +kernel
theorem d1_4 : decode method_3_code 4 = .ok (.i2b, 1) := by decide +kernel
theorem d1_5 : decode method_3_code 5 = .ok (.bastore, 1) := by decide +kernel
theorem d1_6 : decode method_3_code 6 = .ok (.aload_n 0, 1) := by decide +kernel
theorem d1_7 : decode method_3_code 7 = .ok (.iload_n 1, 1) := by decide +kernel
theorem d1_8 : decode method_3_code 8 = .ok (.iconst 1, 1) := by decide +kernel
theorem d1_9 : decode method_3_code 9 = .ok (.iadd, 1) := by decide +kernel
theorem d1_10 : decode method_3_code 10 = .ok (.lload_n 2, 1) := by decide +kernel
theorem d1_11 : decode method_3_code 11 = .ok (.bipush 8, 2) := by decide +kernel
theorem d1_13 : decode method_3_code 13 = .ok (.lushr, 1) := by decide +kernel
theorem d1_14 : decode method_3_code 14 = .ok (.l2i, 1) := by decide +kernel
theorem d1_15 : decode method_3_code 15 = .ok (.i2b, 1) := by decide +kernel
theorem d1_16 : decode method_3_code 16 = .ok (.bastore, 1) := by decide +kernel
theorem d1_17 : decode method_3_code 17 = .ok (.aload_n 0, 1) := by decide +kernel
theorem d1_18 : decode method_3_code 18 = .ok (.iload_n 1, 1) := by decide +kernel
theorem d1_19 : decode method_3_code 19 = .ok (.iconst 2, 1) := by decide +kernel
theorem d1_20 : decode method_3_code 20 = .ok (.iadd, 1) := by decide +kernel
theorem d1_21 : decode method_3_code 21 = .ok (.lload_n 2, 1) := by decide +kernel
theorem d1_22 : decode method_3_code 22 = .ok (.bipush 16, 2) := by decide +kernel
theorem d1_24 : decode method_3_code 24 = .ok (.lushr, 1) := by decide +kernel
theorem d1_25 : decode method_3_code 25 = .ok (.l2i, 1) := by decide +kernel
theorem d1_26 : decode method_3_code 26 = .ok (.i2b, 1) := by decide +kernel
theorem d1_27 : decode method_3_code 27 = .ok (.bastore, 1) := by decide +kernel
theorem d1_28 : decode method_3_code 28 = .ok (.aload_n 0, 1) := by decide +kernel
theorem d1_29 : decode method_3_code 29 = .ok (.iload_n 1, 1) := by decide +kernel
theorem d1_30 : decode method_3_code 30 = .ok (.iconst 3, 1) := by decide +kernel
theorem d1_31 : decode method_3_code 31 = .ok (.iadd, 1) := by decide +kernel
theorem d1_32 : decode method_3_code 32 = .ok (.lload_n 2, 1) := by decide +kernel
theorem d1_33 : decode method_3_code 33 = .ok (.bipush 24, 2) := by decide +kernel
theorem d1_35 : decode method_3_code 35 = .ok (.lushr, 1) := by decide +kernel
theorem d1_36 : decode method_3_code 36 = .ok (.l2i, 1) := by decide +kernel
theorem d1_37 : decode method_3_code 37 = .ok (.i2b, 1) := by decide +kernel
theorem d1_38 : decode method_3_code 38 = .ok (.bastore, 1) := by decide +kernel
theorem d1_39 : decode method_3_code 39 = .ok (.aload_n 0, 1) := by decide +kernel
theorem d1_40 : decode method_3_code 40 = .ok (.iload_n 1, 1) := by decide +kernel
theorem d1_41 : decode method_3_code 41 = .ok (.iconst 4, 1) := by decide +kernel
theorem d1_42 : decode method_3_code 42 = .ok (.iadd, 1) := by decide +kernel
theorem d1_43 : decode method_3_code 43 = .ok (.lload_n 2, 1) := by decide +kernel
theorem d1_44 : decode method_3_code 44 = .ok (.bipush 32, 2) := by decide +kernel
theorem d1_46 : decode method_3_code 46 = .ok (.lushr, 1) := by decide +kernel
theorem d1_47 : decode method_3_code 47 = .ok (.l2i, 1) := by decide +kernel
theorem d1_48 : decode method_3_code 48 = .ok (.i2b, 1) := by decide +kernel
theorem d1_49 : decode method_3_code 49 = .ok (.bastore, 1) := by decide +kernel
theorem d1_50 : decode method_3_code 50 = .ok (.aload_n 0, 1) := by decide +kernel
theorem d1_51 : decode method_3_code 51 = .ok (.iload_n 1, 1) := by decide +kernel
theorem d1_52 : decode method_3_code 52 = .ok (.iconst 5, 1) := by decide +kernel
theorem d1_53 : decode method_3_code 53 = .ok (.iadd, 1) := by decide +kernel
theorem d1_54 : decode method_3_code 54 = .ok (.lload_n 2, 1) := by decide +kernel
theorem d1_55 : decode method_3_code 55 = .ok (.bipush 40, 2) := by decide +kernel
theorem d1_57 : decode method_3_code 57 = .ok (.lushr, 1) := by decide +kernel
theorem d1_58 : decode method_3_code 58 = .ok (.l2i, 1) := by decide +kernel
theorem d1_59 : decode method_3_code 59 = .ok (.i2b, 1) := by decide +kernel
theorem d1_60 : decode method_3_code 60 = .ok (.bastore, 1) := by decide +kernel
theorem d1_61 : decode method_3_code 61 = .ok (.aload_n 0, 1) := by decide +kernel
theorem d1_62 : decode method_3_code 62 = .ok (.iload_n 1, 1) := by decide +kernel
theorem d1_63 : decode method_3_code 63 = .ok (.bipush 6, 2) := by decide +kernel
theorem d1_65 : decode method_3_code 65 = .ok (.iadd, 1) := by decide +kernel
theorem d1_66 : decode method_3_code 66 = .ok (.lload_n 2, 1) := by decide +kernel
theorem d1_67 : decode method_3_code 67 = .ok (.bipush 48, 2) := by decide +kernel
theorem d1_69 : decode method_3_code 69 = .ok (.lushr, 1) := by decide +kernel
theorem d1_70 : decode method_3_code 70 = .ok (.l2i, 1) := by decide +kernel
theorem d1_71 : decode method_3_code 71 = .ok (.i2b, 1) := by decide +kernel
theorem d1_72 : decode method_3_code 72 = .ok (.bastore, 1) := by decide +kernel
theorem d1_73 : decode method_3_code 73 = .ok (.aload_n 0, 1) := by decide +kernel
theorem d1_74 : decode method_3_code 74 = .ok (.iload_n 1, 1) := by decide +kernel
theorem d1_75 : decode method_3_code 75 = .ok (.bipush 7, 2) := by decide +kernel
theorem d1_77 : decode method_3_code 77 = .ok (.iadd, 1) := by decide +kernel
theorem d1_78 : decode method_3_code 78 = .ok (.lload_n 2, 1) := by decide +kernel
theorem d1_79 : decode method_3_code 79 = .ok (.bipush 56, 2) := by decide +kernel
theorem d1_81 : decode method_3_code 81 = .ok (.lushr, 1) := by decide +kernel
theorem d1_82 : decode method_3_code 82 = .ok (.l2i, 1) := by decide +kernel
theorem d1_83 : decode method_3_code 83 = .ok (.i2b, 1) := by decide +kernel
theorem d1_84 : decode method_3_code 84 = .ok (.bastore, 1) := by decide +kernel
theorem d1_85 : decode method_3_code 85 = .ok (.return_, 1) := by decide +kernel
theorem pn_8 : plainName "com/example/withhold/withhold/crypto/Ed25519ScalarsDigitsPinLaw" = true := by first | (simp [plainName, overriddenIn]; done) | decide +kernel
theorem ef_rm1 (m : MethodId) (a1 : Addr) (p1 : Int32) (q1 : Int64) : entryFrame m #[(.ref a1), (.int p1), (.long q1)] 4 = mkF m 0 #[.val (.ref a1), .val (.int p1), .val (.long q1), .second] [] := by first | (simp [entryFrame, mkF, argsToLocals, Value.category]; done) | rfl
def Q_rm1 (Z : State) (a1 : Addr) (p1 : Int32) (q1 : Int64) (f : Nat → Int32) (oo : Nat) (h0 : Heap) (n0 : Nat) (v : Option Value) (h : Heap) (L : List Loc) : Prop := v = none ∧ Fr n0 L ∧ Keep h0 h [a1] ∧ AF Z h a1 .byte 32 (fun j => .int (own_put f oo q1 j))
set_option maxRecDepth 65536 in
set_option maxHeartbeats 40000000 in
theorem rm1 (l : Launch) (Z : State) (a0 : Array Value) (hw : ∀ d ∈ tables_1, d.before a0 Z = true) (ws : List Jvm.Cond) (a1 : Addr) (p1 : Int32) (q1 : Int64) (f : Nat → Int32) (oo : Nat) (h0 : Heap) (n0 : Nat) (Z0 : n0 ≤ h0.size) (A0 : AF Z h0 a1 .byte 32 (fun j => .int (f j))) (g0 : n0 ≤ a1) (hj : p1.toInt = (oo : Int)) (hi : oo + 8 ≤ 32) :
    MetFree l (⟨"com/example/withhold/withhold/crypto/Ed25519ScalarsDigitsPinLaw", "put", "([BIJ)V"⟩ : MethodName) (head1 (Jvm.Cond.code (⟨"com/example/withhold/withhold/crypto/Ed25519ScalarsDigitsPinLaw", "put", "([BIJ)V"⟩ : MethodName) method_3_code 4 none :: ws) ({ frames := 0, cells := 0, slots := 0, locals := 0 } : Room)) (fun a U => a = #[(.ref a1), (.int p1), (.long q1)] ∧ Z.Warmed39 U.vm ∧ U.heap = h0) (fun _ _ _ _ _ => True) (fun _ U o U' => ∃ v L, o = .returned v ∧ Q_rm1 Z a1 p1 q1 f oo h0 n0 v U'.heap L ∧ FrameEnd U o U' L ({ frames := 0, cells := 0, slots := 0, locals := 0 } : Room).cells ({ frames := 0, cells := 0, slots := 0, locals := 0 } : Room).slots) := by
  refine own_body (Q := Q_rm1 Z a1 p1 q1 f oo h0 n0) (plainFor_of_name pn_8) ?_
  intro p e s m below meth c s₁ K go fin X0 hx hby hml hown hnm hret hZ e0
  have hown : s.vm.findClass "com/example/withhold/withhold/crypto/Ed25519ScalarsDigitsPinLaw" = some m.cls := hown
  have N0 := Fr.nil n0
  have K0 : Keep h0 h0 [a1] := Keep.refl h0 _
  refine go _ (s₁.setTop (mkF m 0 #[.val (.ref a1), .val (.int p1), .val (.long q1), .second] [])) (fun t k => castTop (ef_rm1 m a1 p1 q1) k) ?_
  have hk0 := hj
  have hk1 := own_plus hj 1 (1 : Int32) (by decide) (by omega)
  have hk2 := own_plus hj 2 (2 : Int32) (by decide) (by omega)
  have hk3 := own_plus hj 3 (3 : Int32) (by decide) (by omega)
  have hk4 := own_plus hj 4 (4 : Int32) (by decide) (by omega)
  have hk5 := own_plus hj 5 (5 : Int32) (by decide) (by omega)
  have hk6 := own_plus hj 6 (6 : Int32) (by decide) (by omega)
  have hk7 := own_plus hj 7 (7 : Int32) (by decide) (by omega)
  refine go _ (s₁.setTop (mkF m 1 #[.val (.ref a1), .val (.int p1), .val (.long q1), .second] [(.ref a1)])) (fun t k => XS.aloadN X0.here hx rfl (hb hby d1_0) rfl rfl k) ?_
  refine go _ (s₁.setTop (mkF m 2 #[.val (.ref a1), .val (.int p1), .val (.long q1), .second] [(.int p1), (.ref a1)])) (fun t k => XS.iloadN X0.here hx rfl (hb hby d1_1) rfl k) ?_
  refine go _ (s₁.setTop (mkF m 3 #[.val (.ref a1), .val (.int p1), .val (.long q1), .second] [(.long q1), (.int p1), (.ref a1)])) (fun t k => XS.lloadN X0.here hx rfl (hb hby d1_2) rfl k) ?_
  refine go _ (s₁.setTop (mkF m 4 #[.val (.ref a1), .val (.int p1), .val (.long q1), .second] [(.int (q1.toInt32)), (.int p1), (.ref a1)])) (fun t k => XS.l2i X0.here hx rfl (hb hby d1_3) rfl k) ?_
  refine go _ (s₁.setTop (mkF m 5 #[.val (.ref a1), .val (.int p1), .val (.long q1), .second] [(.int (jb (q1.toInt32))), (.int p1), (.ref a1)])) (fun t k => XS.i2b X0.here hx rfl (hb hby d1_4) rfl k) ?_
  obtain ⟨T1, h1, X1, e1, W1, A1, st1⟩ := own_stB X0 hx hZ e0 A0 (i := oo) hk0 (by omega) (own_narb (q1.toInt32)) (g := (mkF m 5 #[.val (.ref a1), .val (.int p1), .val (.long q1), .second] [(.int (jb (q1.toInt32))), (.int p1), (.ref a1)])) rfl rfl (hb hby d1_5)
  have Z2 : n0 ≤ h1.size := by rw [W1.size]; exact Z0
  have N3 := Fr.snoc X1 N0 g0
  have K4 := K0.wr W1 (Or.inl (by simp))
  refine go _ (T1.setTop (mkF m 6 #[.val (.ref a1), .val (.int p1), .val (.long q1), .second] [])) (st1) ?_
  refine go _ (T1.setTop (mkF m 7 #[.val (.ref a1), .val (.int p1), .val (.long q1), .second] [(.ref a1)])) (fun t k => XS.aloadN X1.here hx rfl (hb hby d1_6) rfl rfl k) ?_
  refine go _ (T1.setTop (mkF m 8 #[.val (.ref a1), .val (.int p1), .val (.long q1), .second] [(.int p1), (.ref a1)])) (fun t k => XS.iloadN X1.here hx rfl (hb hby d1_7) rfl k) ?_
  refine go _ (T1.setTop (mkF m 9 #[.val (.ref a1), .val (.int p1), .val (.long q1), .second] [(.int (1 : Int32)), (.int p1), (.ref a1)])) (fun t k => XS.iconst X1.here hx rfl (hb hby d1_8) k) ?_
  refine go _ (T1.setTop (mkF m 10 #[.val (.ref a1), .val (.int p1), .val (.long q1), .second] [(.int (p1 + (1 : Int32))), (.ref a1)])) (fun t k => XS.iadd X1.here hx rfl (hb hby d1_9) rfl k) ?_
  refine go _ (T1.setTop (mkF m 11 #[.val (.ref a1), .val (.int p1), .val (.long q1), .second] [(.long q1), (.int (p1 + (1 : Int32))), (.ref a1)])) (fun t k => XS.lloadN X1.here hx rfl (hb hby d1_10) rfl k) ?_
  refine go _ (T1.setTop (mkF m 13 #[.val (.ref a1), .val (.int p1), .val (.long q1), .second] [(.int (8 : Int32)), (.long q1), (.int (p1 + (1 : Int32))), (.ref a1)])) (fun t k => XS.bipush X1.here hx rfl (hb hby d1_11) k) ?_
  refine go _ (T1.setTop (mkF m 14 #[.val (.ref a1), .val (.int p1), .val (.long q1), .second] [(.long (jushrL q1 (8 : Int32))), (.int (p1 + (1 : Int32))), (.ref a1)])) (fun t k => XS.lushr X1.here hx rfl (hb hby d1_13) rfl k) ?_
  refine go _ (T1.setTop (mkF m 15 #[.val (.ref a1), .val (.int p1), .val (.long q1), .second] [(.int ((jushrL q1 (8 : Int32)).toInt32)), (.int (p1 + (1 : Int32))), (.ref a1)])) (fun t k => XS.l2i X1.here hx rfl (hb hby d1_14) rfl k) ?_
  refine go _ (T1.setTop (mkF m 16 #[.val (.ref a1), .val (.int p1), .val (.long q1), .second] [(.int (jb ((jushrL q1 (8 : Int32)).toInt32))), (.int (p1 + (1 : Int32))), (.ref a1)])) (fun t k => XS.i2b X1.here hx rfl (hb hby d1_15) rfl k) ?_
  obtain ⟨T5, h5, X5, e5, W5, A5, st5⟩ := own_stB X1 hx hZ e1 A1 (i := (oo + 1)) hk1 (by omega) (own_narb ((jushrL q1 (8 : Int32)).toInt32)) (g := (mkF m 16 #[.val (.ref a1), .val (.int p1), .val (.long q1), .second] [(.int (jb ((jushrL q1 (8 : Int32)).toInt32))), (.int (p1 + (1 : Int32))), (.ref a1)])) rfl rfl (hb hby d1_16)
  have Z6 : n0 ≤ h5.size := by rw [W5.size]; exact Z2
  have N7 := Fr.snoc X5 N3 g0
  have K8 := K4.wr W5 (Or.inl (by simp))
  refine go _ (T5.setTop (mkF m 17 #[.val (.ref a1), .val (.int p1), .val (.long q1), .second] [])) (st5) ?_
  refine go _ (T5.setTop (mkF m 18 #[.val (.ref a1), .val (.int p1), .val (.long q1), .second] [(.ref a1)])) (fun t k => XS.aloadN X5.here hx rfl (hb hby d1_17) rfl rfl k) ?_
  refine go _ (T5.setTop (mkF m 19 #[.val (.ref a1), .val (.int p1), .val (.long q1), .second] [(.int p1), (.ref a1)])) (fun t k => XS.iloadN X5.here hx rfl (hb hby d1_18) rfl k) ?_
  refine go _ (T5.setTop (mkF m 20 #[.val (.ref a1), .val (.int p1), .val (.long q1), .second] [(.int (2 : Int32)), (.int p1), (.ref a1)])) (fun t k => XS.iconst X5.here hx rfl (hb hby d1_19) k) ?_
  refine go _ (T5.setTop (mkF m 21 #[.val (.ref a1), .val (.int p1), .val (.long q1), .second] [(.int (p1 + (2 : Int32))), (.ref a1)])) (fun t k => XS.iadd X5.here hx rfl (hb hby d1_20) rfl k) ?_
  refine go _ (T5.setTop (mkF m 22 #[.val (.ref a1), .val (.int p1), .val (.long q1), .second] [(.long q1), (.int (p1 + (2 : Int32))), (.ref a1)])) (fun t k => XS.lloadN X5.here hx rfl (hb hby d1_21) rfl k) ?_
  refine go _ (T5.setTop (mkF m 24 #[.val (.ref a1), .val (.int p1), .val (.long q1), .second] [(.int (16 : Int32)), (.long q1), (.int (p1 + (2 : Int32))), (.ref a1)])) (fun t k => XS.bipush X5.here hx rfl (hb hby d1_22) k) ?_
  refine go _ (T5.setTop (mkF m 25 #[.val (.ref a1), .val (.int p1), .val (.long q1), .second] [(.long (jushrL q1 (16 : Int32))), (.int (p1 + (2 : Int32))), (.ref a1)])) (fun t k => XS.lushr X5.here hx rfl (hb hby d1_24) rfl k) ?_
  refine go _ (T5.setTop (mkF m 26 #[.val (.ref a1), .val (.int p1), .val (.long q1), .second] [(.int ((jushrL q1 (16 : Int32)).toInt32)), (.int (p1 + (2 : Int32))), (.ref a1)])) (fun t k => XS.l2i X5.here hx rfl (hb hby d1_25) rfl k) ?_
  refine go _ (T5.setTop (mkF m 27 #[.val (.ref a1), .val (.int p1), .val (.long q1), .second] [(.int (jb ((jushrL q1 (16 : Int32)).toInt32))), (.int (p1 + (2 : Int32))), (.ref a1)])) (fun t k => XS.i2b X5.here hx rfl (hb hby d1_26) rfl k) ?_
  obtain ⟨T9, h9, X9, e9, W9, A9, st9⟩ := own_stB X5 hx hZ e5 A5 (i := (oo + 2)) hk2 (by omega) (own_narb ((jushrL q1 (16 : Int32)).toInt32)) (g := (mkF m 27 #[.val (.ref a1), .val (.int p1), .val (.long q1), .second] [(.int (jb ((jushrL q1 (16 : Int32)).toInt32))), (.int (p1 + (2 : Int32))), (.ref a1)])) rfl rfl (hb hby d1_27)
  have Z10 : n0 ≤ h9.size := by rw [W9.size]; exact Z6
  have N11 := Fr.snoc X9 N7 g0
  have K12 := K8.wr W9 (Or.inl (by simp))
  refine go _ (T9.setTop (mkF m 28 #[.val (.ref a1), .val (.int p1), .val (.long q1), .second] [])) (st9) ?_
  refine go _ (T9.setTop (mkF m 29 #[.val (.ref a1), .val (.int p1), .val (.long q1), .second] [(.ref a1)])) (fun t k => XS.aloadN X9.here hx rfl (hb hby d1_28) rfl rfl k) ?_
  refine go _ (T9.setTop (mkF m 30 #[.val (.ref a1), .val (.int p1), .val (.long q1), .second] [(.int p1), (.ref a1)])) (fun t k => XS.iloadN X9.here hx rfl (hb hby d1_29) rfl k) ?_
  refine go _ (T9.setTop (mkF m 31 #[.val (.ref a1), .val (.int p1), .val (.long q1), .second] [(.int (3 : Int32)), (.int p1), (.ref a1)])) (fun t k => XS.iconst X9.here hx rfl (hb hby d1_30) k) ?_
  refine go _ (T9.setTop (mkF m 32 #[.val (.ref a1), .val (.int p1), .val (.long q1), .second] [(.int (p1 + (3 : Int32))), (.ref a1)])) (fun t k => XS.iadd X9.here hx rfl (hb hby d1_31) rfl k) ?_
  refine go _ (T9.setTop (mkF m 33 #[.val (.ref a1), .val (.int p1), .val (.long q1), .second] [(.long q1), (.int (p1 + (3 : Int32))), (.ref a1)])) (fun t k => XS.lloadN X9.here hx rfl (hb hby d1_32) rfl k) ?_
  refine go _ (T9.setTop (mkF m 35 #[.val (.ref a1), .val (.int p1), .val (.long q1), .second] [(.int (24 : Int32)), (.long q1), (.int (p1 + (3 : Int32))), (.ref a1)])) (fun t k => XS.bipush X9.here hx rfl (hb hby d1_33) k) ?_
  refine go _ (T9.setTop (mkF m 36 #[.val (.ref a1), .val (.int p1), .val (.long q1), .second] [(.long (jushrL q1 (24 : Int32))), (.int (p1 + (3 : Int32))), (.ref a1)])) (fun t k => XS.lushr X9.here hx rfl (hb hby d1_35) rfl k) ?_
  refine go _ (T9.setTop (mkF m 37 #[.val (.ref a1), .val (.int p1), .val (.long q1), .second] [(.int ((jushrL q1 (24 : Int32)).toInt32)), (.int (p1 + (3 : Int32))), (.ref a1)])) (fun t k => XS.l2i X9.here hx rfl (hb hby d1_36) rfl k) ?_
  refine go _ (T9.setTop (mkF m 38 #[.val (.ref a1), .val (.int p1), .val (.long q1), .second] [(.int (jb ((jushrL q1 (24 : Int32)).toInt32))), (.int (p1 + (3 : Int32))), (.ref a1)])) (fun t k => XS.i2b X9.here hx rfl (hb hby d1_37) rfl k) ?_
  obtain ⟨T13, h13, X13, e13, W13, A13, st13⟩ := own_stB X9 hx hZ e9 A9 (i := (oo + 3)) hk3 (by omega) (own_narb ((jushrL q1 (24 : Int32)).toInt32)) (g := (mkF m 38 #[.val (.ref a1), .val (.int p1), .val (.long q1), .second] [(.int (jb ((jushrL q1 (24 : Int32)).toInt32))), (.int (p1 + (3 : Int32))), (.ref a1)])) rfl rfl (hb hby d1_38)
  have Z14 : n0 ≤ h13.size := by rw [W13.size]; exact Z10
  have N15 := Fr.snoc X13 N11 g0
  have K16 := K12.wr W13 (Or.inl (by simp))
  refine go _ (T13.setTop (mkF m 39 #[.val (.ref a1), .val (.int p1), .val (.long q1), .second] [])) (st13) ?_
  refine go _ (T13.setTop (mkF m 40 #[.val (.ref a1), .val (.int p1), .val (.long q1), .second] [(.ref a1)])) (fun t k => XS.aloadN X13.here hx rfl (hb hby d1_39) rfl rfl k) ?_
  refine go _ (T13.setTop (mkF m 41 #[.val (.ref a1), .val (.int p1), .val (.long q1), .second] [(.int p1), (.ref a1)])) (fun t k => XS.iloadN X13.here hx rfl (hb hby d1_40) rfl k) ?_
  refine go _ (T13.setTop (mkF m 42 #[.val (.ref a1), .val (.int p1), .val (.long q1), .second] [(.int (4 : Int32)), (.int p1), (.ref a1)])) (fun t k => XS.iconst X13.here hx rfl (hb hby d1_41) k) ?_
  refine go _ (T13.setTop (mkF m 43 #[.val (.ref a1), .val (.int p1), .val (.long q1), .second] [(.int (p1 + (4 : Int32))), (.ref a1)])) (fun t k => XS.iadd X13.here hx rfl (hb hby d1_42) rfl k) ?_
  refine go _ (T13.setTop (mkF m 44 #[.val (.ref a1), .val (.int p1), .val (.long q1), .second] [(.long q1), (.int (p1 + (4 : Int32))), (.ref a1)])) (fun t k => XS.lloadN X13.here hx rfl (hb hby d1_43) rfl k) ?_
  refine go _ (T13.setTop (mkF m 46 #[.val (.ref a1), .val (.int p1), .val (.long q1), .second] [(.int (32 : Int32)), (.long q1), (.int (p1 + (4 : Int32))), (.ref a1)])) (fun t k => XS.bipush X13.here hx rfl (hb hby d1_44) k) ?_
  refine go _ (T13.setTop (mkF m 47 #[.val (.ref a1), .val (.int p1), .val (.long q1), .second] [(.long (jushrL q1 (32 : Int32))), (.int (p1 + (4 : Int32))), (.ref a1)])) (fun t k => XS.lushr X13.here hx rfl (hb hby d1_46) rfl k) ?_
  refine go _ (T13.setTop (mkF m 48 #[.val (.ref a1), .val (.int p1), .val (.long q1), .second] [(.int ((jushrL q1 (32 : Int32)).toInt32)), (.int (p1 + (4 : Int32))), (.ref a1)])) (fun t k => XS.l2i X13.here hx rfl (hb hby d1_47) rfl k) ?_
  refine go _ (T13.setTop (mkF m 49 #[.val (.ref a1), .val (.int p1), .val (.long q1), .second] [(.int (jb ((jushrL q1 (32 : Int32)).toInt32))), (.int (p1 + (4 : Int32))), (.ref a1)])) (fun t k => XS.i2b X13.here hx rfl (hb hby d1_48) rfl k) ?_
  obtain ⟨T17, h17, X17, e17, W17, A17, st17⟩ := own_stB X13 hx hZ e13 A13 (i := (oo + 4)) hk4 (by omega) (own_narb ((jushrL q1 (32 : Int32)).toInt32)) (g := (mkF m 49 #[.val (.ref a1), .val (.int p1), .val (.long q1), .second] [(.int (jb ((jushrL q1 (32 : Int32)).toInt32))), (.int (p1 + (4 : Int32))), (.ref a1)])) rfl rfl (hb hby d1_49)
  have Z18 : n0 ≤ h17.size := by rw [W17.size]; exact Z14
  have N19 := Fr.snoc X17 N15 g0
  have K20 := K16.wr W17 (Or.inl (by simp))
  refine go _ (T17.setTop (mkF m 50 #[.val (.ref a1), .val (.int p1), .val (.long q1), .second] [])) (st17) ?_
  refine go _ (T17.setTop (mkF m 51 #[.val (.ref a1), .val (.int p1), .val (.long q1), .second] [(.ref a1)])) (fun t k => XS.aloadN X17.here hx rfl (hb hby d1_50) rfl rfl k) ?_
  refine go _ (T17.setTop (mkF m 52 #[.val (.ref a1), .val (.int p1), .val (.long q1), .second] [(.int p1), (.ref a1)])) (fun t k => XS.iloadN X17.here hx rfl (hb hby d1_51) rfl k) ?_
  refine go _ (T17.setTop (mkF m 53 #[.val (.ref a1), .val (.int p1), .val (.long q1), .second] [(.int (5 : Int32)), (.int p1), (.ref a1)])) (fun t k => XS.iconst X17.here hx rfl (hb hby d1_52) k) ?_
  refine go _ (T17.setTop (mkF m 54 #[.val (.ref a1), .val (.int p1), .val (.long q1), .second] [(.int (p1 + (5 : Int32))), (.ref a1)])) (fun t k => XS.iadd X17.here hx rfl (hb hby d1_53) rfl k) ?_
  refine go _ (T17.setTop (mkF m 55 #[.val (.ref a1), .val (.int p1), .val (.long q1), .second] [(.long q1), (.int (p1 + (5 : Int32))), (.ref a1)])) (fun t k => XS.lloadN X17.here hx rfl (hb hby d1_54) rfl k) ?_
  refine go _ (T17.setTop (mkF m 57 #[.val (.ref a1), .val (.int p1), .val (.long q1), .second] [(.int (40 : Int32)), (.long q1), (.int (p1 + (5 : Int32))), (.ref a1)])) (fun t k => XS.bipush X17.here hx rfl (hb hby d1_55) k) ?_
  refine go _ (T17.setTop (mkF m 58 #[.val (.ref a1), .val (.int p1), .val (.long q1), .second] [(.long (jushrL q1 (40 : Int32))), (.int (p1 + (5 : Int32))), (.ref a1)])) (fun t k => XS.lushr X17.here hx rfl (hb hby d1_57) rfl k) ?_
  refine go _ (T17.setTop (mkF m 59 #[.val (.ref a1), .val (.int p1), .val (.long q1), .second] [(.int ((jushrL q1 (40 : Int32)).toInt32)), (.int (p1 + (5 : Int32))), (.ref a1)])) (fun t k => XS.l2i X17.here hx rfl (hb hby d1_58) rfl k) ?_
  refine go _ (T17.setTop (mkF m 60 #[.val (.ref a1), .val (.int p1), .val (.long q1), .second] [(.int (jb ((jushrL q1 (40 : Int32)).toInt32))), (.int (p1 + (5 : Int32))), (.ref a1)])) (fun t k => XS.i2b X17.here hx rfl (hb hby d1_59) rfl k) ?_
  obtain ⟨T21, h21, X21, e21, W21, A21, st21⟩ := own_stB X17 hx hZ e17 A17 (i := (oo + 5)) hk5 (by omega) (own_narb ((jushrL q1 (40 : Int32)).toInt32)) (g := (mkF m 60 #[.val (.ref a1), .val (.int p1), .val (.long q1), .second] [(.int (jb ((jushrL q1 (40 : Int32)).toInt32))), (.int (p1 + (5 : Int32))), (.ref a1)])) rfl rfl (hb hby d1_60)
  have Z22 : n0 ≤ h21.size := by rw [W21.size]; exact Z18
  have N23 := Fr.snoc X21 N19 g0
  have K24 := K20.wr W21 (Or.inl (by simp))
  refine go _ (T21.setTop (mkF m 61 #[.val (.ref a1), .val (.int p1), .val (.long q1), .second] [])) (st21) ?_
  refine go _ (T21.setTop (mkF m 62 #[.val (.ref a1), .val (.int p1), .val (.long q1), .second] [(.ref a1)])) (fun t k => XS.aloadN X21.here hx rfl (hb hby d1_61) rfl rfl k) ?_
  refine go _ (T21.setTop (mkF m 63 #[.val (.ref a1), .val (.int p1), .val (.long q1), .second] [(.int p1), (.ref a1)])) (fun t k => XS.iloadN X21.here hx rfl (hb hby d1_62) rfl k) ?_
  refine go _ (T21.setTop (mkF m 65 #[.val (.ref a1), .val (.int p1), .val (.long q1), .second] [(.int (6 : Int32)), (.int p1), (.ref a1)])) (fun t k => XS.bipush X21.here hx rfl (hb hby d1_63) k) ?_
  refine go _ (T21.setTop (mkF m 66 #[.val (.ref a1), .val (.int p1), .val (.long q1), .second] [(.int (p1 + (6 : Int32))), (.ref a1)])) (fun t k => XS.iadd X21.here hx rfl (hb hby d1_65) rfl k) ?_
  refine go _ (T21.setTop (mkF m 67 #[.val (.ref a1), .val (.int p1), .val (.long q1), .second] [(.long q1), (.int (p1 + (6 : Int32))), (.ref a1)])) (fun t k => XS.lloadN X21.here hx rfl (hb hby d1_66) rfl k) ?_
  refine go _ (T21.setTop (mkF m 69 #[.val (.ref a1), .val (.int p1), .val (.long q1), .second] [(.int (48 : Int32)), (.long q1), (.int (p1 + (6 : Int32))), (.ref a1)])) (fun t k => XS.bipush X21.here hx rfl (hb hby d1_67) k) ?_
  refine go _ (T21.setTop (mkF m 70 #[.val (.ref a1), .val (.int p1), .val (.long q1), .second] [(.long (jushrL q1 (48 : Int32))), (.int (p1 + (6 : Int32))), (.ref a1)])) (fun t k => XS.lushr X21.here hx rfl (hb hby d1_69) rfl k) ?_
  refine go _ (T21.setTop (mkF m 71 #[.val (.ref a1), .val (.int p1), .val (.long q1), .second] [(.int ((jushrL q1 (48 : Int32)).toInt32)), (.int (p1 + (6 : Int32))), (.ref a1)])) (fun t k => XS.l2i X21.here hx rfl (hb hby d1_70) rfl k) ?_
  refine go _ (T21.setTop (mkF m 72 #[.val (.ref a1), .val (.int p1), .val (.long q1), .second] [(.int (jb ((jushrL q1 (48 : Int32)).toInt32))), (.int (p1 + (6 : Int32))), (.ref a1)])) (fun t k => XS.i2b X21.here hx rfl (hb hby d1_71) rfl k) ?_
  obtain ⟨T25, h25, X25, e25, W25, A25, st25⟩ := own_stB X21 hx hZ e21 A21 (i := (oo + 6)) hk6 (by omega) (own_narb ((jushrL q1 (48 : Int32)).toInt32)) (g := (mkF m 72 #[.val (.ref a1), .val (.int p1), .val (.long q1), .second] [(.int (jb ((jushrL q1 (48 : Int32)).toInt32))), (.int (p1 + (6 : Int32))), (.ref a1)])) rfl rfl (hb hby d1_72)
  have Z26 : n0 ≤ h25.size := by rw [W25.size]; exact Z22
  have N27 := Fr.snoc X25 N23 g0
  have K28 := K24.wr W25 (Or.inl (by simp))
  refine go _ (T25.setTop (mkF m 73 #[.val (.ref a1), .val (.int p1), .val (.long q1), .second] [])) (st25) ?_
  refine go _ (T25.setTop (mkF m 74 #[.val (.ref a1), .val (.int p1), .val (.long q1), .second] [(.ref a1)])) (fun t k => XS.aloadN X25.here hx rfl (hb hby d1_73) rfl rfl k) ?_
  refine go _ (T25.setTop (mkF m 75 #[.val (.ref a1), .val (.int p1), .val (.long q1), .second] [(.int p1), (.ref a1)])) (fun t k => XS.iloadN X25.here hx rfl (hb hby d1_74) rfl k) ?_
  refine go _ (T25.setTop (mkF m 77 #[.val (.ref a1), .val (.int p1), .val (.long q1), .second] [(.int (7 : Int32)), (.int p1), (.ref a1)])) (fun t k => XS.bipush X25.here hx rfl (hb hby d1_75) k) ?_
  refine go _ (T25.setTop (mkF m 78 #[.val (.ref a1), .val (.int p1), .val (.long q1), .second] [(.int (p1 + (7 : Int32))), (.ref a1)])) (fun t k => XS.iadd X25.here hx rfl (hb hby d1_77) rfl k) ?_
  refine go _ (T25.setTop (mkF m 79 #[.val (.ref a1), .val (.int p1), .val (.long q1), .second] [(.long q1), (.int (p1 + (7 : Int32))), (.ref a1)])) (fun t k => XS.lloadN X25.here hx rfl (hb hby d1_78) rfl k) ?_
  refine go _ (T25.setTop (mkF m 81 #[.val (.ref a1), .val (.int p1), .val (.long q1), .second] [(.int (56 : Int32)), (.long q1), (.int (p1 + (7 : Int32))), (.ref a1)])) (fun t k => XS.bipush X25.here hx rfl (hb hby d1_79) k) ?_
  refine go _ (T25.setTop (mkF m 82 #[.val (.ref a1), .val (.int p1), .val (.long q1), .second] [(.long (jushrL q1 (56 : Int32))), (.int (p1 + (7 : Int32))), (.ref a1)])) (fun t k => XS.lushr X25.here hx rfl (hb hby d1_81) rfl k) ?_
  refine go _ (T25.setTop (mkF m 83 #[.val (.ref a1), .val (.int p1), .val (.long q1), .second] [(.int ((jushrL q1 (56 : Int32)).toInt32)), (.int (p1 + (7 : Int32))), (.ref a1)])) (fun t k => XS.l2i X25.here hx rfl (hb hby d1_82) rfl k) ?_
  refine go _ (T25.setTop (mkF m 84 #[.val (.ref a1), .val (.int p1), .val (.long q1), .second] [(.int (jb ((jushrL q1 (56 : Int32)).toInt32))), (.int (p1 + (7 : Int32))), (.ref a1)])) (fun t k => XS.i2b X25.here hx rfl (hb hby d1_83) rfl k) ?_
  obtain ⟨T29, h29, X29, e29, W29, A29, st29⟩ := own_stB X25 hx hZ e25 A25 (i := (oo + 7)) hk7 (by omega) (own_narb ((jushrL q1 (56 : Int32)).toInt32)) (g := (mkF m 84 #[.val (.ref a1), .val (.int p1), .val (.long q1), .second] [(.int (jb ((jushrL q1 (56 : Int32)).toInt32))), (.int (p1 + (7 : Int32))), (.ref a1)])) rfl rfl (hb hby d1_84)
  have Z30 : n0 ≤ h29.size := by rw [W29.size]; exact Z26
  have N31 := Fr.snoc X29 N27 g0
  have K32 := K28.wr W29 (Or.inl (by simp))
  refine go _ (T29.setTop (mkF m 85 #[.val (.ref a1), .val (.int p1), .val (.long q1), .second] [])) (st29) ?_
  exact fin none X29 (by decide) (by decide) (fun _ => rfl) (show Q_rm1 Z a1 p1 q1 f oo h0 n0 _ T29.heap _ from (by rw [e29]; exact ⟨rfl, N31, K32, A29.congr (fun j _ => own_putc f oo q1 j)⟩)) (fun fs hr => X29.returnOut hx hret (hb hby d1_85) hr)
theorem d2_0 : decode prog_1_method_4_code 0 = .ok (.bipush 64, 2) := by decide +kernel
theorem d2_2 : decode prog_1_method_4_code 2 = .ok (.newarray .byte, 2) := by decide +kernel
theorem d2_4 : decode prog_1_method_4_code 4 = .ok (.astore_n 1, 1) := by decide +kernel
theorem d2_5 : decode prog_1_method_4_code 5 = .ok (.iconst 0, 1) := by decide +kernel
theorem d2_6 : decode prog_1_method_4_code 6 = .ok (.istore_n 2, 1) := by decide +kernel
theorem d2_7 : decode prog_1_method_4_code 7 = .ok (.iload_n 2, 1) := by decide +kernel
theorem d2_8 : decode prog_1_method_4_code 8 = .ok (.bipush 32, 2) := by decide +kernel
theorem d2_10 : decode prog_1_method_4_code 10 = .ok (.if_icmp .ge 37, 3) := by decide +kernel
theorem d2_13 : decode prog_1_method_4_code 13 = .ok (.aload_n 1, 1) := by decide +kernel
theorem d2_14 : decode prog_1_method_4_code 14 = .ok (.iconst 2, 1) := by decide +kernel
theorem d2_15 : decode prog_1_method_4_code 15 = .ok (.iload_n 2, 1) := by decide +kernel
theorem d2_16 : decode prog_1_method_4_code 16 = .ok (.imul, 1) := by decide +kernel
theorem d2_17 : decode prog_1_method_4_code 17 = .ok (.aload_n 0, 1) := by decide +kernel
theorem d2_18 : decode prog_1_method_4_code 18 = .ok (.iload_n 2, 1) := by decide +kernel
theorem d2_19 : decode prog_1_method_4_code 19 = .ok (.baload, 1) := by decide +kernel
theorem d2_20 : decode prog_1_method_4_code 20 = .ok (.bipush 15, 2) := by decide +kernel
theorem d2_22 : decode prog_1_method_4_code 22 = .ok (.iand, 1) := by decide +kernel
theorem d2_23 : decode prog_1_method_4_code 23 = .ok (.i2b, 1) := by decide +kernel
theorem d2_24 : decode prog_1_method_4_code 24 = .ok (.bastore, 1) := by decide +kernel
theorem d2_25 : decode prog_1_method_4_code 25 = .ok (.aload_n 1, 1) := by decide +kernel
theorem d2_26 : decode prog_1_method_4_code 26 = .ok (.iconst 2, 1) := by decide +kernel
theorem d2_27 : decode prog_1_method_4_code 27 = .ok (.iload_n 2, 1) := by decide +kernel
theorem d2_28 : decode prog_1_method_4_code 28 = .ok (.imul, 1) := by decide +kernel
theorem d2_29 : decode prog_1_method_4_code 29 = .ok (.iconst 1, 1) := by decide +kernel
theorem d2_30 : decode prog_1_method_4_code 30 = .ok (.iadd, 1) := by decide +kernel
theorem d2_31 : decode prog_1_method_4_code 31 = .ok (.aload_n 0, 1) := by decide +kernel
theorem d2_32 : decode prog_1_method_4_code 32 = .ok (.iload_n 2, 1) := by decide +kernel
theorem d2_33 : decode prog_1_method_4_code 33 = .ok (.baload, 1) := by decide +kernel
theorem d2_34 : decode prog_1_method_4_code 34 = .ok (.iconst 4, 1) := by decide +kernel
theorem d2_35 : decode prog_1_method_4_code 35 = .ok (.ishr, 1) := by decide +kernel
theorem d2_36 : decode prog_1_method_4_code 36 = .ok (.bipush 15, 2) := by decide +kernel
theorem d2_38 : decode prog_1_method_4_code 38 = .ok (.iand, 1) := by decide +kernel
theorem d2_39 : decode prog_1_method_4_code 39 = .ok (.i2b, 1) := by decide +kernel
theorem d2_40 : decode prog_1_method_4_code 40 = .ok (.bastore, 1) := by decide +kernel
theorem d2_41 : decode prog_1_method_4_code 41 = .ok (.iinc 2 1, 3) := by decide +kernel
theorem d2_44 : decode prog_1_method_4_code 44 = .ok (.goto (-37), 3) := by decide +kernel
theorem d2_47 : decode prog_1_method_4_code 47 = .ok (.iconst 0, 1) := by decide +kernel
theorem d2_48 : decode prog_1_method_4_code 48 = .ok (.istore_n 2, 1) := by decide +kernel
theorem d2_49 : decode prog_1_method_4_code 49 = .ok (.iload_n 2, 1) := by decide +kernel
theorem d2_50 : decode prog_1_method_4_code 50 = .ok (.bipush 63, 2) := by decide +kernel
theorem d2_52 : decode prog_1_method_4_code 52 = .ok (.if_icmp .ge 40, 3) := by decide +kernel
theorem d2_55 : decode prog_1_method_4_code 55 = .ok (.aload_n 1, 1) := by decide +kernel
theorem d2_56 : decode prog_1_method_4_code 56 = .ok (.iload_n 2, 1) := by decide +kernel
theorem d2_57 : decode prog_1_method_4_code 57 = .ok (.baload, 1) := by decide +kernel
theorem d2_58 : decode prog_1_method_4_code 58 = .ok (.bipush 8, 2) := by decide +kernel
theorem d2_60 : decode prog_1_method_4_code 60 = .ok (.iadd, 1) := by decide +kernel
theorem d2_61 : decode prog_1_method_4_code 61 = .ok (.iconst 4, 1) := by decide +kernel
theorem d2_62 : decode prog_1_method_4_code 62 = .ok (.ishr, 1) := by decide +kernel
theorem d2_63 : decode prog_1_method_4_code 63 = .ok (.istore_n 3, 1) := by decide +kernel
theorem d2_64 : decode prog_1_method_4_code 64 = .ok (.aload_n 1, 1) := by decide +kernel
theorem d2_65 : decode prog_1_method_4_code 65 = .ok (.iload_n 2, 1) := by decide +kernel
theorem d2_66 : decode prog_1_method_4_code 66 = .ok (.dup2, 1) := by decide +kernel
theorem d2_67 : decode prog_1_method_4_code 67 = .ok (.baload, 1) := by decide +kernel
theorem d2_68 : decode prog_1_method_4_code 68 = .ok (.iload_n 3, 1) := by decide +kernel
theorem d2_69 : decode prog_1_method_4_code 69 = .ok (.iconst 4, 1) := by decide +kernel
theorem d2_70 : decode prog_1_method_4_code 70 = .ok (.ishl, 1) := by decide +kernel
theorem d2_71 : decode prog_1_method_4_code 71 = .ok (.i2b, 1) := by decide +kernel
theorem d2_72 : decode prog_1_method_4_code 72 = .ok (.isub, 1) := by decide +kernel
theorem d2_73 : decode prog_1_method_4_code 73 = .ok (.i2b, 1) := by decide +kernel
theorem d2_74 : decode prog_1_method_4_code 74 = .ok (.bastore, 1) := by decide +kernel
theorem d2_75 : decode prog_1_method_4_code 75 = .ok (.aload_n 1, 1) := by decide +kernel
theorem d2_76 : decode prog_1_method_4_code 76 = .ok (.iload_n 2, 1) := by decide +kernel
theorem d2_77 : decode prog_1_method_4_code 77 = .ok (.iconst 1, 1) := by decide +kernel
theorem d2_78 : decode prog_1_method_4_code 78 = .ok (.iadd, 1) := by decide +kernel
theorem d2_79 : decode prog_1_method_4_code 79 = .ok (.dup2, 1) := by decide +kernel
theorem d2_80 : decode prog_1_method_4_code 80 = .ok (.baload, 1) := by decide +kernel
theorem d2_81 : decode prog_1_method_4_code 81 = .ok (.iload_n 3, 1) := by decide +kernel
theorem d2_82 : decode prog_1_method_4_code 82 = .ok (.i2b, 1) := by decide +kernel
theorem d2_83 : decode prog_1_method_4_code 83 = .ok (.iadd, 1) := by decide +kernel
theorem d2_84 : decode prog_1_method_4_code 84 = .ok (.i2b, 1) := by decide +kernel
theorem d2_85 : decode prog_1_method_4_code 85 = .ok (.bastore, 1) := by decide +kernel
theorem d2_86 : decode prog_1_method_4_code 86 = .ok (.iinc 2 1, 3) := by decide +kernel
theorem d2_89 : decode prog_1_method_4_code 89 = .ok (.goto (-40), 3) := by decide +kernel
theorem d2_92 : decode prog_1_method_4_code 92 = .ok (.aload_n 1, 1) := by decide +kernel
theorem d2_93 : decode prog_1_method_4_code 93 = .ok (.areturn, 1) := by decide +kernel
theorem pn_10 : plainName "com/example/withhold/withhold/crypto/Ed25519Scalars" = true := by first | (simp [plainName, overriddenIn]; done) | decide +kernel
theorem ef_rm2 (m : MethodId) (a1 : Addr) : entryFrame m #[(.ref a1)] 4 = mkF m 0 #[.val (.ref a1), .unset, .unset, .unset] [] := by first | (simp [entryFrame, mkF, argsToLocals, Value.category]; done) | rfl
def Q_rm2 (Z : State) (a1 : Addr) (sb : Nat → Int32) (h0 : Heap) (n0 : Nat) (v : Option Value) (h : Heap) (L : List Loc) : Prop := ∃ b, v = some (.ref b) ∧ Fr n0 L ∧ n0 ≤ b ∧ h0.size ≤ b ∧ Keep h0 h [] ∧ ∃ F : Nat → Int32, AF Z h b .byte 64 (fun j => .int (F j)) ∧ ∀ j, j < 64 → (F j).toInt = own_fin (own_nb sb) j
set_option maxRecDepth 65536 in
set_option maxHeartbeats 40000000 in
theorem rm2 (l : Launch) (Z : State) (a0 : Array Value) (hw : ∀ d ∈ tables_1, d.before a0 Z = true) (ws : List Jvm.Cond) (a1 : Addr) (sb : Nat → Int32) (h0 : Heap) (n0 : Nat) (Z0 : n0 ≤ h0.size) (A0 : AF Z h0 a1 .byte 32 (fun j => .int (sb j))) :
    MetFree l (⟨"com/example/withhold/withhold/crypto/Ed25519Scalars", "digits", "([B)[B"⟩ : MethodName) (head1 (Jvm.Cond.code (⟨"com/example/withhold/withhold/crypto/Ed25519Scalars", "digits", "([B)[B"⟩ : MethodName) prog_1_method_4_code 4 (some (.array .byte)) :: ws) ({ frames := 0, cells := 1, slots := 64, locals := 0 } : Room)) (fun a U => a = #[(.ref a1)] ∧ Z.Warmed39 U.vm ∧ U.heap = h0) (fun _ _ _ _ _ => True) (fun _ U o U' => ∃ v L, o = .returned v ∧ Q_rm2 Z a1 sb h0 n0 v U'.heap L ∧ FrameEnd U o U' L ({ frames := 0, cells := 1, slots := 64, locals := 0 } : Room).cells ({ frames := 0, cells := 1, slots := 64, locals := 0 } : Room).slots) := by
  refine own_body (Q := Q_rm2 Z a1 sb h0 n0) (plainFor_of_name pn_10) ?_
  intro p e s m below meth c s₁ K go fin X0 hx hby hml hown hnm hret hZ e0
  have hown : s.vm.findClass "com/example/withhold/withhold/crypto/Ed25519Scalars" = some m.cls := hown
  have N0 := Fr.nil n0
  have K0 : Keep h0 h0 [] := Keep.refl h0 _
  refine go _ (s₁.setTop (mkF m 0 #[.val (.ref a1), .unset, .unset, .unset] [])) (fun t k => castTop (ef_rm2 m a1) k) ?_
  refine go _ (s₁.setTop (mkF m 2 #[.val (.ref a1), .unset, .unset, .unset] [(.int (64 : Int32))])) (fun t k => XS.bipush X0.here hx rfl (hb hby d2_0) k) ?_
  obtain ⟨T33, h33, b33, X33, e33, E33, g33, A33, st33⟩ := own_new X0 hx hZ (hw _ (List.mem_of_getElem? (i := 1) rfl)) e0 (g := (mkF m 2 #[.val (.ref a1), .unset, .unset, .unset] [(.int (64 : Int32))])) rfl (hb hby d2_2) rfl (k := 64) (by decide) 64 (by decide) (by decide) (by decide) (by decide)
  have ne_a1_b33 : a1 ≠ b33 := by rw [g33]; exact Nat.ne_of_lt A0.lt
  have Z34 : n0 ≤ h33.size := Nat.le_trans Z0 E33.1
  have ge_b33 : n0 ≤ b33 := by rw [g33]; exact Z0
  have sz_b33 : h0.size ≤ b33 := by rw [g33]; exact K0.1
  have K35 := K0.ext E33
  have A36 := A0.ext E33
  have A33' : AF Z h33 b33 .byte 64 (fun _ => .int 0) := A33
  refine go _ (T33.setTop (mkF m 4 #[.val (.ref a1), .unset, .unset, .unset] [(.ref b33)])) (st33) ?_
  refine go _ (T33.setTop (mkF m 5 #[.val (.ref a1), .val (.ref b33), .unset, .unset] [])) (fun t k => XS.astoreN X33.here hx rfl (hb hby d2_4) rfl rfl (l' := #[.val (.ref a1), .val (.ref b33), .unset, .unset]) rfl k) ?_
  refine go _ (T33.setTop (mkF m 6 #[.val (.ref a1), .val (.ref b33), .unset, .unset] [(.int (0 : Int32))])) (fun t k => XS.iconst X33.here hx rfl (hb hby d2_5) k) ?_
  refine go _ (T33.setTop (mkF m 7 #[.val (.ref a1), .val (.ref b33), .val (.int (0 : Int32)), .unset] [])) (fun t k => XS.istoreN X33.here hx rfl (hb hby d2_6) rfl (l' := #[.val (.ref a1), .val (.ref b33), .val (.int (0 : Int32)), .unset]) rfl k) ?_
  have loop : ∀ (k i : Nat) (F : Nat → Int32) (T : State) (h : Heap) (locs : List Loc), i + k = 32 → Stand p l e ({ frames := 0, cells := 1, slots := 64, locals := 0 } : Room) s m #[(.ref a1)] below meth c T locs (0 + 1) (0 + 64) → T.heap = h → n0 ≤ h.size → Fr n0 locs → Keep h0 h [] → AF Z h a1 .byte 32 (fun j => .int (sb j)) → AF Z h b33 .byte 64 (fun j => .int (F j)) → (∀ j, j < 2 * i → (F j).toInt = own_nb sb j) → K (T.setTop (mkF m 7 #[.val (.ref a1), .val (.ref b33), .val (.int (Int32.ofNat i)), .unset] [])) := by
    intro k
    induction k with
    | zero =>
      intro i F T h locs hik X eh Zs Nf Kp B1 B2 hF
      have hF32 : ∀ j, j < 64 → (F j).toInt = own_nb sb j := fun j hj => hF j (by omega)
      refine go _ (T.setTop (mkF m 8 #[.val (.ref a1), .val (.ref b33), .val (.int (Int32.ofNat i)), .unset] [(.int (Int32.ofNat i))])) (fun t k => XS.iloadN X.here hx rfl (hb hby d2_7) rfl k) ?_
      refine go _ (T.setTop (mkF m 10 #[.val (.ref a1), .val (.ref b33), .val (.int (Int32.ofNat i)), .unset] [(.int (32 : Int32)), (.int (Int32.ofNat i))])) (fun t k => XS.bipush X.here hx rfl (hb hby d2_8) k) ?_
      have hc37 : ¬ ((Int32.ofNat i) < (32 : Int32)) := own_no32 (by omega)
      refine go _ (T.setTop (mkF m 47 #[.val (.ref a1), .val (.ref b33), .val (.int (Int32.ofNat i)), .unset] [])) (fun t k => XS.icmpYes X.here hx rfl (pc0 := 10) (pc' := 47) rfl (hb hby d2_10) rfl (flt hc37).2.1 (by decide) (by decide) k) ?_
      refine go _ (T.setTop (mkF m 48 #[.val (.ref a1), .val (.ref b33), .val (.int (Int32.ofNat i)), .unset] [(.int (0 : Int32))])) (fun t k => XS.iconst X.here hx rfl (hb hby d2_47) k) ?_
      refine go _ (T.setTop (mkF m 49 #[.val (.ref a1), .val (.ref b33), .val (.int (0 : Int32)), .unset] [])) (fun t k => XS.istoreN X.here hx rfl (hb hby d2_48) rfl (l' := #[.val (.ref a1), .val (.ref b33), .val (.int (0 : Int32)), .unset]) rfl k) ?_
      have loop2 : ∀ (k i : Nat) (G : Nat → Int32) (s3 : Slot) (T : State) (h : Heap) (locs : List Loc), One s3 → i + k = 63 → Stand p l e ({ frames := 0, cells := 1, slots := 64, locals := 0 } : Room) s m #[(.ref a1)] below meth c T locs (0 + 1) (0 + 64) → T.heap = h → n0 ≤ h.size → Fr n0 locs → Keep h0 h [] → AF Z h b33 .byte 64 (fun j => .int (G j)) → (∀ j, j < 64 → (G j).toInt = own_stt (own_nb sb) i j) → K (T.setTop (mkF m 49 #[.val (.ref a1), .val (.ref b33), .val (.int (Int32.ofNat i)), s3] [])) := by
        intro k
        induction k with
        | zero =>
          intro i G s3 T h locs h3 hik X eh Zs Nf Kp B2 hG
          refine go _ (T.setTop (mkF m 50 #[.val (.ref a1), .val (.ref b33), .val (.int (Int32.ofNat i)), s3] [(.int (Int32.ofNat i))])) (fun t k => XS.iloadN X.here hx rfl (hb hby d2_49) rfl k) ?_
          refine go _ (T.setTop (mkF m 52 #[.val (.ref a1), .val (.ref b33), .val (.int (Int32.ofNat i)), s3] [(.int (63 : Int32)), (.int (Int32.ofNat i))])) (fun t k => XS.bipush X.here hx rfl (hb hby d2_50) k) ?_
          have hc38 : ¬ ((Int32.ofNat i) < (63 : Int32)) := own_no63 (by omega)
          refine go _ (T.setTop (mkF m 92 #[.val (.ref a1), .val (.ref b33), .val (.int (Int32.ofNat i)), s3] [])) (fun t k => XS.icmpYes X.here hx rfl (pc0 := 52) (pc' := 92) rfl (hb hby d2_52) rfl (flt hc38).2.1 (by decide) (by decide) k) ?_
          refine go _ (T.setTop (mkF m 93 #[.val (.ref a1), .val (.ref b33), .val (.int (Int32.ofNat i)), s3] [(.ref b33)])) (fun t k => XS.aloadN X.here hx rfl (hb hby d2_92) rfl rfl k) ?_
          exact fin (some (.ref b33)) X (by decide) (by decide) (fun q => by cases q) (show Q_rm2 Z a1 sb h0 n0 _ T.heap _ from (by rw [eh]; exact ⟨b33, rfl, Nf, ge_b33, sz_b33, Kp, G, B2, fun j hj => (hG j hj).trans (own_stt63 (by omega) hj)⟩)) (fun fs hr => retA X hx hret rfl (hb hby d2_93) hr)
        | succ k ih2 =>
          intro i G s3 T h locs h3 hik X eh Zs Nf Kp B2 hG
          refine go _ (T.setTop (mkF m 50 #[.val (.ref a1), .val (.ref b33), .val (.int (Int32.ofNat i)), s3] [(.int (Int32.ofNat i))])) (fun t k => XS.iloadN X.here hx rfl (hb hby d2_49) rfl k) ?_
          refine go _ (T.setTop (mkF m 52 #[.val (.ref a1), .val (.ref b33), .val (.int (Int32.ofNat i)), s3] [(.int (63 : Int32)), (.int (Int32.ofNat i))])) (fun t k => XS.bipush X.here hx rfl (hb hby d2_50) k) ?_
          have hc39 : ((Int32.ofNat i) < (63 : Int32)) := own_yes63 (by omega)
          refine go _ (T.setTop (mkF m 55 #[.val (.ref a1), .val (.ref b33), .val (.int (Int32.ofNat i)), s3] [])) (fun t k => XS.icmpNo X.here hx rfl (hb hby d2_52) rfl (tlt hc39).2.1 k) ?_
          refine go _ (T.setTop (mkF m 56 #[.val (.ref a1), .val (.ref b33), .val (.int (Int32.ofNat i)), s3] [(.ref b33)])) (fun t k => XS.aloadN X.here hx rfl (hb hby d2_55) rfl rfl k) ?_
          refine go _ (T.setTop (mkF m 57 #[.val (.ref a1), .val (.ref b33), .val (.int (Int32.ofNat i)), s3] [(.int (Int32.ofNat i)), (.ref b33)])) (fun t k => XS.iloadN X.here hx rfl (hb hby d2_56) rfl k) ?_
          refine go _ (T.setTop (mkF m 58 #[.val (.ref a1), .val (.ref b33), .val (.int (Int32.ofNat i)), s3] [(.int (G i))])) (own_ldB X hx hZ eh B2 (i := i) (own_nat (by omega)) (by omega) (g := (mkF m 57 #[.val (.ref a1), .val (.ref b33), .val (.int (Int32.ofNat i)), s3] [(.int (Int32.ofNat i)), (.ref b33)])) rfl rfl (hb hby d2_57) (v := (.int (G i))) rfl) ?_
          refine go _ (T.setTop (mkF m 60 #[.val (.ref a1), .val (.ref b33), .val (.int (Int32.ofNat i)), s3] [(.int (8 : Int32)), (.int (G i))])) (fun t k => XS.bipush X.here hx rfl (hb hby d2_58) k) ?_
          refine go _ (T.setTop (mkF m 61 #[.val (.ref a1), .val (.ref b33), .val (.int (Int32.ofNat i)), s3] [(.int ((G i) + (8 : Int32)))])) (fun t k => XS.iadd X.here hx rfl (hb hby d2_60) rfl k) ?_
          refine go _ (T.setTop (mkF m 62 #[.val (.ref a1), .val (.ref b33), .val (.int (Int32.ofNat i)), s3] [(.int (4 : Int32)), (.int ((G i) + (8 : Int32)))])) (fun t k => XS.iconst X.here hx rfl (hb hby d2_61) k) ?_
          refine go _ (T.setTop (mkF m 63 #[.val (.ref a1), .val (.ref b33), .val (.int (Int32.ofNat i)), s3] [(.int (jshr ((G i) + (8 : Int32)) (4 : Int32)))])) (fun t k => XS.ishr X.here hx rfl (hb hby d2_62) rfl k) ?_
          refine go _ (T.setTop (mkF m 64 #[.val (.ref a1), .val (.ref b33), .val (.int (Int32.ofNat i)), .val (.int (jshr ((G i) + (8 : Int32)) (4 : Int32)))] [])) (fun t k => XS.istoreN X.here hx rfl (hb hby d2_63) rfl (l' := #[.val (.ref a1), .val (.ref b33), .val (.int (Int32.ofNat i)), .val (.int (jshr ((G i) + (8 : Int32)) (4 : Int32)))]) (own_os3 h3) k) ?_
          refine go _ (T.setTop (mkF m 65 #[.val (.ref a1), .val (.ref b33), .val (.int (Int32.ofNat i)), .val (.int (jshr ((G i) + (8 : Int32)) (4 : Int32)))] [(.ref b33)])) (fun t k => XS.aloadN X.here hx rfl (hb hby d2_64) rfl rfl k) ?_
          refine go _ (T.setTop (mkF m 66 #[.val (.ref a1), .val (.ref b33), .val (.int (Int32.ofNat i)), .val (.int (jshr ((G i) + (8 : Int32)) (4 : Int32)))] [(.int (Int32.ofNat i)), (.ref b33)])) (fun t k => XS.iloadN X.here hx rfl (hb hby d2_65) rfl k) ?_
          refine go _ (T.setTop (mkF m 67 #[.val (.ref a1), .val (.ref b33), .val (.int (Int32.ofNat i)), .val (.int (jshr ((G i) + (8 : Int32)) (4 : Int32)))] [(.int (Int32.ofNat i)), (.ref b33), (.int (Int32.ofNat i)), (.ref b33)])) (fun t k => XT.dup2 X.here hx rfl (hb hby d2_66) rfl rfl rfl k) ?_
          refine go _ (T.setTop (mkF m 68 #[.val (.ref a1), .val (.ref b33), .val (.int (Int32.ofNat i)), .val (.int (jshr ((G i) + (8 : Int32)) (4 : Int32)))] [(.int (G i)), (.int (Int32.ofNat i)), (.ref b33)])) (own_ldB X hx hZ eh B2 (i := i) (own_nat (by omega)) (by omega) (g := (mkF m 67 #[.val (.ref a1), .val (.ref b33), .val (.int (Int32.ofNat i)), .val (.int (jshr ((G i) + (8 : Int32)) (4 : Int32)))] [(.int (Int32.ofNat i)), (.ref b33), (.int (Int32.ofNat i)), (.ref b33)])) rfl rfl (hb hby d2_67) (v := (.int (G i))) rfl) ?_
          refine go _ (T.setTop (mkF m 69 #[.val (.ref a1), .val (.ref b33), .val (.int (Int32.ofNat i)), .val (.int (jshr ((G i) + (8 : Int32)) (4 : Int32)))] [(.int (jshr ((G i) + (8 : Int32)) (4 : Int32))), (.int (G i)), (.int (Int32.ofNat i)), (.ref b33)])) (fun t k => XS.iloadN X.here hx rfl (hb hby d2_68) rfl k) ?_
          refine go _ (T.setTop (mkF m 70 #[.val (.ref a1), .val (.ref b33), .val (.int (Int32.ofNat i)), .val (.int (jshr ((G i) + (8 : Int32)) (4 : Int32)))] [(.int (4 : Int32)), (.int (jshr ((G i) + (8 : Int32)) (4 : Int32))), (.int (G i)), (.int (Int32.ofNat i)), (.ref b33)])) (fun t k => XS.iconst X.here hx rfl (hb hby d2_69) k) ?_
          refine go _ (T.setTop (mkF m 71 #[.val (.ref a1), .val (.ref b33), .val (.int (Int32.ofNat i)), .val (.int (jshr ((G i) + (8 : Int32)) (4 : Int32)))] [(.int (jshl (jshr ((G i) + (8 : Int32)) (4 : Int32)) (4 : Int32))), (.int (G i)), (.int (Int32.ofNat i)), (.ref b33)])) (fun t k => XS.ishl X.here hx rfl (hb hby d2_70) rfl k) ?_
          refine go _ (T.setTop (mkF m 72 #[.val (.ref a1), .val (.ref b33), .val (.int (Int32.ofNat i)), .val (.int (jshr ((G i) + (8 : Int32)) (4 : Int32)))] [(.int (jb (jshl (jshr ((G i) + (8 : Int32)) (4 : Int32)) (4 : Int32)))), (.int (G i)), (.int (Int32.ofNat i)), (.ref b33)])) (fun t k => XS.i2b X.here hx rfl (hb hby d2_71) rfl k) ?_
          refine go _ (T.setTop (mkF m 73 #[.val (.ref a1), .val (.ref b33), .val (.int (Int32.ofNat i)), .val (.int (jshr ((G i) + (8 : Int32)) (4 : Int32)))] [(.int ((G i) - (jb (jshl (jshr ((G i) + (8 : Int32)) (4 : Int32)) (4 : Int32))))), (.int (Int32.ofNat i)), (.ref b33)])) (fun t k => XS.isub X.here hx rfl (hb hby d2_72) rfl k) ?_
          refine go _ (T.setTop (mkF m 74 #[.val (.ref a1), .val (.ref b33), .val (.int (Int32.ofNat i)), .val (.int (jshr ((G i) + (8 : Int32)) (4 : Int32)))] [(.int (jb ((G i) - (jb (jshl (jshr ((G i) + (8 : Int32)) (4 : Int32)) (4 : Int32)))))), (.int (Int32.ofNat i)), (.ref b33)])) (fun t k => XS.i2b X.here hx rfl (hb hby d2_73) rfl k) ?_
          obtain ⟨T40, h40, X40, e40, W40, A40, st40⟩ := own_stB X hx hZ eh B2 (i := i) (own_nat (by omega)) (by omega) (own_narb ((G i) - (jb (jshl (jshr ((G i) + (8 : Int32)) (4 : Int32)) (4 : Int32))))) (g := (mkF m 74 #[.val (.ref a1), .val (.ref b33), .val (.int (Int32.ofNat i)), .val (.int (jshr ((G i) + (8 : Int32)) (4 : Int32)))] [(.int (jb ((G i) - (jb (jshl (jshr ((G i) + (8 : Int32)) (4 : Int32)) (4 : Int32)))))), (.int (Int32.ofNat i)), (.ref b33)])) rfl rfl (hb hby d2_74)
          have Z41 : n0 ≤ h40.size := by rw [W40.size]; exact Zs
          have N42 := Fr.snoc X40 Nf ge_b33
          have K43 := Kp.wr W40 (Or.inr sz_b33)
          have A44 : AF Z h40 b33 .byte 64 (fun j => .int ((own_updI G i (jb ((G i) - (jb (jshl (jshr ((G i) + (8 : Int32)) (4 : Int32)) (4 : Int32)))))) j)) := A40.congr (fun j _ => own_updc G i (jb ((G i) - (jb (jshl (jshr ((G i) + (8 : Int32)) (4 : Int32)) (4 : Int32))))) j)
          refine go _ (T40.setTop (mkF m 75 #[.val (.ref a1), .val (.ref b33), .val (.int (Int32.ofNat i)), .val (.int (jshr ((G i) + (8 : Int32)) (4 : Int32)))] [])) (st40) ?_
          refine go _ (T40.setTop (mkF m 76 #[.val (.ref a1), .val (.ref b33), .val (.int (Int32.ofNat i)), .val (.int (jshr ((G i) + (8 : Int32)) (4 : Int32)))] [(.ref b33)])) (fun t k => XS.aloadN X40.here hx rfl (hb hby d2_75) rfl rfl k) ?_
          refine go _ (T40.setTop (mkF m 77 #[.val (.ref a1), .val (.ref b33), .val (.int (Int32.ofNat i)), .val (.int (jshr ((G i) + (8 : Int32)) (4 : Int32)))] [(.int (Int32.ofNat i)), (.ref b33)])) (fun t k => XS.iloadN X40.here hx rfl (hb hby d2_76) rfl k) ?_
          refine go _ (T40.setTop (mkF m 78 #[.val (.ref a1), .val (.ref b33), .val (.int (Int32.ofNat i)), .val (.int (jshr ((G i) + (8 : Int32)) (4 : Int32)))] [(.int (1 : Int32)), (.int (Int32.ofNat i)), (.ref b33)])) (fun t k => XS.iconst X40.here hx rfl (hb hby d2_77) k) ?_
          refine go _ (T40.setTop (mkF m 79 #[.val (.ref a1), .val (.ref b33), .val (.int (Int32.ofNat i)), .val (.int (jshr ((G i) + (8 : Int32)) (4 : Int32)))] [(.int ((Int32.ofNat i) + (1 : Int32))), (.ref b33)])) (fun t k => XS.iadd X40.here hx rfl (hb hby d2_78) rfl k) ?_
          refine go _ (T40.setTop (mkF m 80 #[.val (.ref a1), .val (.ref b33), .val (.int (Int32.ofNat i)), .val (.int (jshr ((G i) + (8 : Int32)) (4 : Int32)))] [(.int ((Int32.ofNat i) + (1 : Int32))), (.ref b33), (.int ((Int32.ofNat i) + (1 : Int32))), (.ref b33)])) (fun t k => XT.dup2 X40.here hx rfl (hb hby d2_79) rfl rfl rfl k) ?_
          refine go _ (T40.setTop (mkF m 81 #[.val (.ref a1), .val (.ref b33), .val (.int (Int32.ofNat i)), .val (.int (jshr ((G i) + (8 : Int32)) (4 : Int32)))] [(.int ((own_updI G i (jb ((G i) - (jb (jshl (jshr ((G i) + (8 : Int32)) (4 : Int32)) (4 : Int32)))))) (i + 1))), (.int ((Int32.ofNat i) + (1 : Int32))), (.ref b33)])) (own_ldB X40 hx hZ e40 A44 (i := (i + 1)) (own_nat1 (by omega)) (by omega) (g := (mkF m 80 #[.val (.ref a1), .val (.ref b33), .val (.int (Int32.ofNat i)), .val (.int (jshr ((G i) + (8 : Int32)) (4 : Int32)))] [(.int ((Int32.ofNat i) + (1 : Int32))), (.ref b33), (.int ((Int32.ofNat i) + (1 : Int32))), (.ref b33)])) rfl rfl (hb hby d2_80) (v := (.int ((own_updI G i (jb ((G i) - (jb (jshl (jshr ((G i) + (8 : Int32)) (4 : Int32)) (4 : Int32)))))) (i + 1)))) rfl) ?_
          refine go _ (T40.setTop (mkF m 82 #[.val (.ref a1), .val (.ref b33), .val (.int (Int32.ofNat i)), .val (.int (jshr ((G i) + (8 : Int32)) (4 : Int32)))] [(.int (jshr ((G i) + (8 : Int32)) (4 : Int32))), (.int ((own_updI G i (jb ((G i) - (jb (jshl (jshr ((G i) + (8 : Int32)) (4 : Int32)) (4 : Int32)))))) (i + 1))), (.int ((Int32.ofNat i) + (1 : Int32))), (.ref b33)])) (fun t k => XS.iloadN X40.here hx rfl (hb hby d2_81) rfl k) ?_
          refine go _ (T40.setTop (mkF m 83 #[.val (.ref a1), .val (.ref b33), .val (.int (Int32.ofNat i)), .val (.int (jshr ((G i) + (8 : Int32)) (4 : Int32)))] [(.int (jb (jshr ((G i) + (8 : Int32)) (4 : Int32)))), (.int ((own_updI G i (jb ((G i) - (jb (jshl (jshr ((G i) + (8 : Int32)) (4 : Int32)) (4 : Int32)))))) (i + 1))), (.int ((Int32.ofNat i) + (1 : Int32))), (.ref b33)])) (fun t k => XS.i2b X40.here hx rfl (hb hby d2_82) rfl k) ?_
          refine go _ (T40.setTop (mkF m 84 #[.val (.ref a1), .val (.ref b33), .val (.int (Int32.ofNat i)), .val (.int (jshr ((G i) + (8 : Int32)) (4 : Int32)))] [(.int (((own_updI G i (jb ((G i) - (jb (jshl (jshr ((G i) + (8 : Int32)) (4 : Int32)) (4 : Int32)))))) (i + 1)) + (jb (jshr ((G i) + (8 : Int32)) (4 : Int32))))), (.int ((Int32.ofNat i) + (1 : Int32))), (.ref b33)])) (fun t k => XS.iadd X40.here hx rfl (hb hby d2_83) rfl k) ?_
          refine go _ (T40.setTop (mkF m 85 #[.val (.ref a1), .val (.ref b33), .val (.int (Int32.ofNat i)), .val (.int (jshr ((G i) + (8 : Int32)) (4 : Int32)))] [(.int (jb (((own_updI G i (jb ((G i) - (jb (jshl (jshr ((G i) + (8 : Int32)) (4 : Int32)) (4 : Int32)))))) (i + 1)) + (jb (jshr ((G i) + (8 : Int32)) (4 : Int32)))))), (.int ((Int32.ofNat i) + (1 : Int32))), (.ref b33)])) (fun t k => XS.i2b X40.here hx rfl (hb hby d2_84) rfl k) ?_
          obtain ⟨T45, h45, X45, e45, W45, A45, st45⟩ := own_stB X40 hx hZ e40 A44 (i := (i + 1)) (own_nat1 (by omega)) (by omega) (own_narb (((own_updI G i (jb ((G i) - (jb (jshl (jshr ((G i) + (8 : Int32)) (4 : Int32)) (4 : Int32)))))) (i + 1)) + (jb (jshr ((G i) + (8 : Int32)) (4 : Int32))))) (g := (mkF m 85 #[.val (.ref a1), .val (.ref b33), .val (.int (Int32.ofNat i)), .val (.int (jshr ((G i) + (8 : Int32)) (4 : Int32)))] [(.int (jb (((own_updI G i (jb ((G i) - (jb (jshl (jshr ((G i) + (8 : Int32)) (4 : Int32)) (4 : Int32)))))) (i + 1)) + (jb (jshr ((G i) + (8 : Int32)) (4 : Int32)))))), (.int ((Int32.ofNat i) + (1 : Int32))), (.ref b33)])) rfl rfl (hb hby d2_85)
          have Z46 : n0 ≤ h45.size := by rw [W45.size]; exact Z41
          have N47 := Fr.snoc X45 N42 ge_b33
          have K48 := K43.wr W45 (Or.inr sz_b33)
          have A49 : AF Z h45 b33 .byte 64 (fun j => .int ((own_updI (own_updI G i (jb ((G i) - (jb (jshl (jshr ((G i) + (8 : Int32)) (4 : Int32)) (4 : Int32)))))) (i + 1) (jb (((own_updI G i (jb ((G i) - (jb (jshl (jshr ((G i) + (8 : Int32)) (4 : Int32)) (4 : Int32)))))) (i + 1)) + (jb (jshr ((G i) + (8 : Int32)) (4 : Int32)))))) j)) := A45.congr (fun j _ => own_updc (own_updI G i (jb ((G i) - (jb (jshl (jshr ((G i) + (8 : Int32)) (4 : Int32)) (4 : Int32)))))) (i + 1) (jb (((own_updI G i (jb ((G i) - (jb (jshl (jshr ((G i) + (8 : Int32)) (4 : Int32)) (4 : Int32)))))) (i + 1)) + (jb (jshr ((G i) + (8 : Int32)) (4 : Int32))))) j)
          refine go _ (T45.setTop (mkF m 86 #[.val (.ref a1), .val (.ref b33), .val (.int (Int32.ofNat i)), .val (.int (jshr ((G i) + (8 : Int32)) (4 : Int32)))] [])) (st45) ?_
          refine go _ (T45.setTop (mkF m 89 #[.val (.ref a1), .val (.ref b33), .val (.int ((Int32.ofNat i) + (1 : Int32))), .val (.int (jshr ((G i) + (8 : Int32)) (4 : Int32)))] [])) (fun t k => XS.iinc X45.here hx rfl (hb hby d2_86) rfl (l' := #[.val (.ref a1), .val (.ref b33), .val (.int ((Int32.ofNat i) + (1 : Int32))), .val (.int (jshr ((G i) + (8 : Int32)) (4 : Int32)))]) rfl k) ?_
          refine go _ (T45.setTop (mkF m 49 #[.val (.ref a1), .val (.ref b33), .val (.int ((Int32.ofNat i) + (1 : Int32))), .val (.int (jshr ((G i) + (8 : Int32)) (4 : Int32)))] [])) (fun t k => XS.goto X45.here hx rfl (pc0 := 89) (pc' := 49) rfl (hb hby d2_89) (by decide) (by decide) k) ?_
          rw [own_inc]
          exact ih2 (i + 1) _ _ _ _ _ (One.val rfl) (by omega) X45 e45 Z46 N47 K48 A49 (own_turn2 (own_nbr sb) (by omega) hG)
      exact loop2 63 0 F .unset _ _ _ One.u (by omega) X eh Zs Nf Kp B2 (fun j hj => (hF32 j hj).trans (own_stt0 _ j))
    | succ k ih =>
      intro i F T h locs hik X eh Zs Nf Kp B1 B2 hF
      refine go _ (T.setTop (mkF m 8 #[.val (.ref a1), .val (.ref b33), .val (.int (Int32.ofNat i)), .unset] [(.int (Int32.ofNat i))])) (fun t k => XS.iloadN X.here hx rfl (hb hby d2_7) rfl k) ?_
      refine go _ (T.setTop (mkF m 10 #[.val (.ref a1), .val (.ref b33), .val (.int (Int32.ofNat i)), .unset] [(.int (32 : Int32)), (.int (Int32.ofNat i))])) (fun t k => XS.bipush X.here hx rfl (hb hby d2_8) k) ?_
      have hc50 : ((Int32.ofNat i) < (32 : Int32)) := own_yes32 (by omega)
      refine go _ (T.setTop (mkF m 13 #[.val (.ref a1), .val (.ref b33), .val (.int (Int32.ofNat i)), .unset] [])) (fun t k => XS.icmpNo X.here hx rfl (hb hby d2_10) rfl (tlt hc50).2.1 k) ?_
      refine go _ (T.setTop (mkF m 14 #[.val (.ref a1), .val (.ref b33), .val (.int (Int32.ofNat i)), .unset] [(.ref b33)])) (fun t k => XS.aloadN X.here hx rfl (hb hby d2_13) rfl rfl k) ?_
      refine go _ (T.setTop (mkF m 15 #[.val (.ref a1), .val (.ref b33), .val (.int (Int32.ofNat i)), .unset] [(.int (2 : Int32)), (.ref b33)])) (fun t k => XS.iconst X.here hx rfl (hb hby d2_14) k) ?_
      refine go _ (T.setTop (mkF m 16 #[.val (.ref a1), .val (.ref b33), .val (.int (Int32.ofNat i)), .unset] [(.int (Int32.ofNat i)), (.int (2 : Int32)), (.ref b33)])) (fun t k => XS.iloadN X.here hx rfl (hb hby d2_15) rfl k) ?_
      refine go _ (T.setTop (mkF m 17 #[.val (.ref a1), .val (.ref b33), .val (.int (Int32.ofNat i)), .unset] [(.int ((2 : Int32) * (Int32.ofNat i))), (.ref b33)])) (fun t k => XS.imul X.here hx rfl (hb hby d2_16) rfl k) ?_
      refine go _ (T.setTop (mkF m 18 #[.val (.ref a1), .val (.ref b33), .val (.int (Int32.ofNat i)), .unset] [(.ref a1), (.int ((2 : Int32) * (Int32.ofNat i))), (.ref b33)])) (fun t k => XS.aloadN X.here hx rfl (hb hby d2_17) rfl rfl k) ?_
      refine go _ (T.setTop (mkF m 19 #[.val (.ref a1), .val (.ref b33), .val (.int (Int32.ofNat i)), .unset] [(.int (Int32.ofNat i)), (.ref a1), (.int ((2 : Int32) * (Int32.ofNat i))), (.ref b33)])) (fun t k => XS.iloadN X.here hx rfl (hb hby d2_18) rfl k) ?_
      refine go _ (T.setTop (mkF m 20 #[.val (.ref a1), .val (.ref b33), .val (.int (Int32.ofNat i)), .unset] [(.int (sb i)), (.int ((2 : Int32) * (Int32.ofNat i))), (.ref b33)])) (own_ldB X hx hZ eh B1 (i := i) (own_nat (by omega)) (by omega) (g := (mkF m 19 #[.val (.ref a1), .val (.ref b33), .val (.int (Int32.ofNat i)), .unset] [(.int (Int32.ofNat i)), (.ref a1), (.int ((2 : Int32) * (Int32.ofNat i))), (.ref b33)])) rfl rfl (hb hby d2_19) (v := (.int (sb i))) rfl) ?_
      refine go _ (T.setTop (mkF m 22 #[.val (.ref a1), .val (.ref b33), .val (.int (Int32.ofNat i)), .unset] [(.int (15 : Int32)), (.int (sb i)), (.int ((2 : Int32) * (Int32.ofNat i))), (.ref b33)])) (fun t k => XS.bipush X.here hx rfl (hb hby d2_20) k) ?_
      refine go _ (T.setTop (mkF m 23 #[.val (.ref a1), .val (.ref b33), .val (.int (Int32.ofNat i)), .unset] [(.int ((sb i) &&& (15 : Int32))), (.int ((2 : Int32) * (Int32.ofNat i))), (.ref b33)])) (fun t k => XS.iand X.here hx rfl (hb hby d2_22) rfl k) ?_
      refine go _ (T.setTop (mkF m 24 #[.val (.ref a1), .val (.ref b33), .val (.int (Int32.ofNat i)), .unset] [(.int (jb ((sb i) &&& (15 : Int32)))), (.int ((2 : Int32) * (Int32.ofNat i))), (.ref b33)])) (fun t k => XS.i2b X.here hx rfl (hb hby d2_23) rfl k) ?_
      obtain ⟨T51, h51, X51, e51, W51, A51, st51⟩ := own_stB X hx hZ eh B2 (i := (2 * i)) (own_two (by omega)) (by omega) (own_narb ((sb i) &&& (15 : Int32))) (g := (mkF m 24 #[.val (.ref a1), .val (.ref b33), .val (.int (Int32.ofNat i)), .unset] [(.int (jb ((sb i) &&& (15 : Int32)))), (.int ((2 : Int32) * (Int32.ofNat i))), (.ref b33)])) rfl rfl (hb hby d2_24)
      have A52 := B1.other W51 ne_a1_b33
      have Z53 : n0 ≤ h51.size := by rw [W51.size]; exact Zs
      have N54 := Fr.snoc X51 Nf ge_b33
      have K55 := Kp.wr W51 (Or.inr sz_b33)
      have A56 : AF Z h51 b33 .byte 64 (fun j => .int ((own_updI F (2 * i) (jb ((sb i) &&& (15 : Int32)))) j)) := A51.congr (fun j _ => own_updc F (2 * i) (jb ((sb i) &&& (15 : Int32))) j)
      refine go _ (T51.setTop (mkF m 25 #[.val (.ref a1), .val (.ref b33), .val (.int (Int32.ofNat i)), .unset] [])) (st51) ?_
      refine go _ (T51.setTop (mkF m 26 #[.val (.ref a1), .val (.ref b33), .val (.int (Int32.ofNat i)), .unset] [(.ref b33)])) (fun t k => XS.aloadN X51.here hx rfl (hb hby d2_25) rfl rfl k) ?_
      refine go _ (T51.setTop (mkF m 27 #[.val (.ref a1), .val (.ref b33), .val (.int (Int32.ofNat i)), .unset] [(.int (2 : Int32)), (.ref b33)])) (fun t k => XS.iconst X51.here hx rfl (hb hby d2_26) k) ?_
      refine go _ (T51.setTop (mkF m 28 #[.val (.ref a1), .val (.ref b33), .val (.int (Int32.ofNat i)), .unset] [(.int (Int32.ofNat i)), (.int (2 : Int32)), (.ref b33)])) (fun t k => XS.iloadN X51.here hx rfl (hb hby d2_27) rfl k) ?_
      refine go _ (T51.setTop (mkF m 29 #[.val (.ref a1), .val (.ref b33), .val (.int (Int32.ofNat i)), .unset] [(.int ((2 : Int32) * (Int32.ofNat i))), (.ref b33)])) (fun t k => XS.imul X51.here hx rfl (hb hby d2_28) rfl k) ?_
      refine go _ (T51.setTop (mkF m 30 #[.val (.ref a1), .val (.ref b33), .val (.int (Int32.ofNat i)), .unset] [(.int (1 : Int32)), (.int ((2 : Int32) * (Int32.ofNat i))), (.ref b33)])) (fun t k => XS.iconst X51.here hx rfl (hb hby d2_29) k) ?_
      refine go _ (T51.setTop (mkF m 31 #[.val (.ref a1), .val (.ref b33), .val (.int (Int32.ofNat i)), .unset] [(.int (((2 : Int32) * (Int32.ofNat i)) + (1 : Int32))), (.ref b33)])) (fun t k => XS.iadd X51.here hx rfl (hb hby d2_30) rfl k) ?_
      refine go _ (T51.setTop (mkF m 32 #[.val (.ref a1), .val (.ref b33), .val (.int (Int32.ofNat i)), .unset] [(.ref a1), (.int (((2 : Int32) * (Int32.ofNat i)) + (1 : Int32))), (.ref b33)])) (fun t k => XS.aloadN X51.here hx rfl (hb hby d2_31) rfl rfl k) ?_
      refine go _ (T51.setTop (mkF m 33 #[.val (.ref a1), .val (.ref b33), .val (.int (Int32.ofNat i)), .unset] [(.int (Int32.ofNat i)), (.ref a1), (.int (((2 : Int32) * (Int32.ofNat i)) + (1 : Int32))), (.ref b33)])) (fun t k => XS.iloadN X51.here hx rfl (hb hby d2_32) rfl k) ?_
      refine go _ (T51.setTop (mkF m 34 #[.val (.ref a1), .val (.ref b33), .val (.int (Int32.ofNat i)), .unset] [(.int (sb i)), (.int (((2 : Int32) * (Int32.ofNat i)) + (1 : Int32))), (.ref b33)])) (own_ldB X51 hx hZ e51 A52 (i := i) (own_nat (by omega)) (by omega) (g := (mkF m 33 #[.val (.ref a1), .val (.ref b33), .val (.int (Int32.ofNat i)), .unset] [(.int (Int32.ofNat i)), (.ref a1), (.int (((2 : Int32) * (Int32.ofNat i)) + (1 : Int32))), (.ref b33)])) rfl rfl (hb hby d2_33) (v := (.int (sb i))) rfl) ?_
      refine go _ (T51.setTop (mkF m 35 #[.val (.ref a1), .val (.ref b33), .val (.int (Int32.ofNat i)), .unset] [(.int (4 : Int32)), (.int (sb i)), (.int (((2 : Int32) * (Int32.ofNat i)) + (1 : Int32))), (.ref b33)])) (fun t k => XS.iconst X51.here hx rfl (hb hby d2_34) k) ?_
      refine go _ (T51.setTop (mkF m 36 #[.val (.ref a1), .val (.ref b33), .val (.int (Int32.ofNat i)), .unset] [(.int (jshr (sb i) (4 : Int32))), (.int (((2 : Int32) * (Int32.ofNat i)) + (1 : Int32))), (.ref b33)])) (fun t k => XS.ishr X51.here hx rfl (hb hby d2_35) rfl k) ?_
      refine go _ (T51.setTop (mkF m 38 #[.val (.ref a1), .val (.ref b33), .val (.int (Int32.ofNat i)), .unset] [(.int (15 : Int32)), (.int (jshr (sb i) (4 : Int32))), (.int (((2 : Int32) * (Int32.ofNat i)) + (1 : Int32))), (.ref b33)])) (fun t k => XS.bipush X51.here hx rfl (hb hby d2_36) k) ?_
      refine go _ (T51.setTop (mkF m 39 #[.val (.ref a1), .val (.ref b33), .val (.int (Int32.ofNat i)), .unset] [(.int ((jshr (sb i) (4 : Int32)) &&& (15 : Int32))), (.int (((2 : Int32) * (Int32.ofNat i)) + (1 : Int32))), (.ref b33)])) (fun t k => XS.iand X51.here hx rfl (hb hby d2_38) rfl k) ?_
      refine go _ (T51.setTop (mkF m 40 #[.val (.ref a1), .val (.ref b33), .val (.int (Int32.ofNat i)), .unset] [(.int (jb ((jshr (sb i) (4 : Int32)) &&& (15 : Int32)))), (.int (((2 : Int32) * (Int32.ofNat i)) + (1 : Int32))), (.ref b33)])) (fun t k => XS.i2b X51.here hx rfl (hb hby d2_39) rfl k) ?_
      obtain ⟨T57, h57, X57, e57, W57, A57, st57⟩ := own_stB X51 hx hZ e51 A56 (i := (2 * i + 1)) (own_two1 (by omega)) (by omega) (own_narb ((jshr (sb i) (4 : Int32)) &&& (15 : Int32))) (g := (mkF m 40 #[.val (.ref a1), .val (.ref b33), .val (.int (Int32.ofNat i)), .unset] [(.int (jb ((jshr (sb i) (4 : Int32)) &&& (15 : Int32)))), (.int (((2 : Int32) * (Int32.ofNat i)) + (1 : Int32))), (.ref b33)])) rfl rfl (hb hby d2_40)
      have A58 := A52.other W57 ne_a1_b33
      have Z59 : n0 ≤ h57.size := by rw [W57.size]; exact Z53
      have N60 := Fr.snoc X57 N54 ge_b33
      have K61 := K55.wr W57 (Or.inr sz_b33)
      have A62 : AF Z h57 b33 .byte 64 (fun j => .int ((own_updI (own_updI F (2 * i) (jb ((sb i) &&& (15 : Int32)))) (2 * i + 1) (jb ((jshr (sb i) (4 : Int32)) &&& (15 : Int32)))) j)) := A57.congr (fun j _ => own_updc (own_updI F (2 * i) (jb ((sb i) &&& (15 : Int32)))) (2 * i + 1) (jb ((jshr (sb i) (4 : Int32)) &&& (15 : Int32))) j)
      refine go _ (T57.setTop (mkF m 41 #[.val (.ref a1), .val (.ref b33), .val (.int (Int32.ofNat i)), .unset] [])) (st57) ?_
      refine go _ (T57.setTop (mkF m 44 #[.val (.ref a1), .val (.ref b33), .val (.int ((Int32.ofNat i) + (1 : Int32))), .unset] [])) (fun t k => XS.iinc X57.here hx rfl (hb hby d2_41) rfl (l' := #[.val (.ref a1), .val (.ref b33), .val (.int ((Int32.ofNat i) + (1 : Int32))), .unset]) rfl k) ?_
      refine go _ (T57.setTop (mkF m 7 #[.val (.ref a1), .val (.ref b33), .val (.int ((Int32.ofNat i) + (1 : Int32))), .unset] [])) (fun t k => XS.goto X57.here hx rfl (pc0 := 44) (pc' := 7) rfl (hb hby d2_44) (by decide) (by decide) k) ?_
      rw [own_inc]
      exact ih (i + 1) _ _ _ _ (by omega) X57 e57 Z59 N60 K61 A58 A62 (own_turn1 hF)
  exact loop 32 0 (fun _ => 0) _ _ _ (by omega) X33 e33 Z34 N0 K35 A36 A33' (fun j hj => absurd hj (by omega))
theorem d4_0 : decode method_5_code 0 = .ok (.iload_n 0, 1) := by decide +kernel
theorem d4_1 : decode method_5_code 1 = .ok (.bipush (-8), 2) := by decide +kernel
theorem d4_3 : decode method_5_code 3 = .ok (.if_icmp .lt 13, 3) := by decide +kernel
theorem d4_6 : decode method_5_code 6 = .ok (.iload_n 0, 1) := by decide +kernel
theorem d4_7 : decode method_5_code 7 = .ok (.bipush 7, 2) := by decide +kernel
theorem d4_9 : decode method_5_code 9 = .ok (.if_icmp .gt 7, 3) := by decide +kernel
theorem d4_12 : decode method_5_code 12 = .ok (.iconst 1, 1) := by decide +kernel
theorem d4_13 : decode method_5_code 13 = .ok (.goto 4, 3) := by decide +kernel
theorem d4_16 : decode method_5_code 16 = .ok (.iconst 0, 1) := by decide +kernel
theorem d4_17 : decode method_5_code 17 = .ok (.ireturn, 1) := by decide +kernel
theorem ef_rm4 (m : MethodId) (p1 : Int32) : entryFrame m #[(.int p1)] 1 = mkF m 0 #[.val (.int p1)] [] := by first | (simp [entryFrame, mkF, argsToLocals, Value.category]; done) | rfl
def f_rm4 (p1 : Int32) : Int32 := (if p1 < (-8 : Int32) then (0 : Int32) else (if (7 : Int32) < p1 then (0 : Int32) else (1 : Int32)))
def Q_rm4 (Z : State) (p1 : Int32) (h0 : Heap) (n0 : Nat) (v : Option Value) (h : Heap) (L : List Loc) : Prop := v = some (.int (f_rm4 p1)) ∧ Fr n0 L ∧ h = h0
set_option maxRecDepth 65536 in
set_option maxHeartbeats 40000000 in
theorem rm4 (l : Launch) (Z : State) (a0 : Array Value) (hw : ∀ d ∈ tables_1, d.before a0 Z = true) (ws : List Jvm.Cond) (p1 : Int32) (h0 : Heap) (n0 : Nat) (Z0 : n0 ≤ h0.size)  :
    MetFree l (⟨"com/example/withhold/withhold/crypto/Ed25519ScalarsDigitsPinLaw", "ok", "(I)Z"⟩ : MethodName) (head1 (Jvm.Cond.code (⟨"com/example/withhold/withhold/crypto/Ed25519ScalarsDigitsPinLaw", "ok", "(I)Z"⟩ : MethodName) method_5_code 1 (some .boolean) :: ws) ({ frames := 0, cells := 0, slots := 0, locals := 0 } : Room)) (fun a U => a = #[(.int p1)] ∧ Z.Warmed39 U.vm ∧ U.heap = h0) (fun _ _ _ _ _ => True) (fun _ U o U' => ∃ v L, o = .returned v ∧ Q_rm4 Z p1 h0 n0 v U'.heap L ∧ FrameEnd U o U' L ({ frames := 0, cells := 0, slots := 0, locals := 0 } : Room).cells ({ frames := 0, cells := 0, slots := 0, locals := 0 } : Room).slots) := by
  refine own_body (Q := Q_rm4 Z p1 h0 n0) (plainFor_of_name pn_8) ?_
  intro p e s m below meth c s₁ K go fin X0 hx hby hml hown hnm hret hZ e0
  have hown : s.vm.findClass "com/example/withhold/withhold/crypto/Ed25519ScalarsDigitsPinLaw" = some m.cls := hown
  have N0 := Fr.nil n0
  refine go _ (s₁.setTop (mkF m 0 #[.val (.int p1)] [])) (fun t k => castTop (ef_rm4 m p1) k) ?_
  refine go _ (s₁.setTop (mkF m 1 #[.val (.int p1)] [(.int p1)])) (fun t k => XS.iloadN X0.here hx rfl (hb hby d4_0) rfl k) ?_
  refine go _ (s₁.setTop (mkF m 3 #[.val (.int p1)] [(.int (-8 : Int32)), (.int p1)])) (fun t k => XS.bipush X0.here hx rfl (hb hby d4_1) k) ?_
  by_cases hc63 : p1 < (-8 : Int32)
  · refine go _ (s₁.setTop (mkF m 16 #[.val (.int p1)] [])) (fun t k => XS.icmpYes X0.here hx rfl (pc0 := 3) (pc' := 16) rfl (hb hby d4_3) rfl (tlt hc63).1 (by decide) (by decide) k) ?_
    refine go _ (s₁.setTop (mkF m 17 #[.val (.int p1)] [(.int (0 : Int32))])) (fun t k => XS.iconst X0.here hx rfl (hb hby d4_16) k) ?_
    exact fin (some (.int (0 : Int32))) X0 (by decide) (by decide) (fun q => by cases q) (show Q_rm4 Z p1 h0 n0 _ s₁.heap _ from (by rw [e0]; exact ⟨congrArg some (congrArg Value.int (show (f_rm4 p1) = (0 : Int32) from (by unfold f_rm4; rw [if_pos hc63])).symm), N0, rfl⟩)) (fun fs hr => retN X0 hx (t := .boolean) hret (by simp) (hb hby d4_17) hr)
  · refine go _ (s₁.setTop (mkF m 6 #[.val (.int p1)] [])) (fun t k => XS.icmpNo X0.here hx rfl (hb hby d4_3) rfl (flt hc63).1 k) ?_
    refine go _ (s₁.setTop (mkF m 7 #[.val (.int p1)] [(.int p1)])) (fun t k => XS.iloadN X0.here hx rfl (hb hby d4_6) rfl k) ?_
    refine go _ (s₁.setTop (mkF m 9 #[.val (.int p1)] [(.int (7 : Int32)), (.int p1)])) (fun t k => XS.bipush X0.here hx rfl (hb hby d4_7) k) ?_
    by_cases hc64 : (7 : Int32) < p1
    · refine go _ (s₁.setTop (mkF m 16 #[.val (.int p1)] [])) (fun t k => XS.icmpYes X0.here hx rfl (pc0 := 9) (pc' := 16) rfl (hb hby d4_9) rfl (tlt hc64).2.2.1 (by decide) (by decide) k) ?_
      refine go _ (s₁.setTop (mkF m 17 #[.val (.int p1)] [(.int (0 : Int32))])) (fun t k => XS.iconst X0.here hx rfl (hb hby d4_16) k) ?_
      exact fin (some (.int (0 : Int32))) X0 (by decide) (by decide) (fun q => by cases q) (show Q_rm4 Z p1 h0 n0 _ s₁.heap _ from (by rw [e0]; exact ⟨congrArg some (congrArg Value.int (show (f_rm4 p1) = (0 : Int32) from (by unfold f_rm4; rw [if_neg hc63, if_pos hc64])).symm), N0, rfl⟩)) (fun fs hr => retN X0 hx (t := .boolean) hret (by simp) (hb hby d4_17) hr)
    · refine go _ (s₁.setTop (mkF m 12 #[.val (.int p1)] [])) (fun t k => XS.icmpNo X0.here hx rfl (hb hby d4_9) rfl (flt hc64).2.2.1 k) ?_
      refine go _ (s₁.setTop (mkF m 13 #[.val (.int p1)] [(.int (1 : Int32))])) (fun t k => XS.iconst X0.here hx rfl (hb hby d4_12) k) ?_
      refine go _ (s₁.setTop (mkF m 17 #[.val (.int p1)] [(.int (1 : Int32))])) (fun t k => XS.goto X0.here hx rfl (pc0 := 13) (pc' := 17) rfl (hb hby d4_13) (by decide) (by decide) k) ?_
      exact fin (some (.int (1 : Int32))) X0 (by decide) (by decide) (fun q => by cases q) (show Q_rm4 Z p1 h0 n0 _ s₁.heap _ from (by rw [e0]; exact ⟨congrArg some (congrArg Value.int (show (f_rm4 p1) = (1 : Int32) from (by unfold f_rm4; rw [if_neg hc63, if_neg hc64])).symm), N0, rfl⟩)) (fun fs hr => retN X0 hx (t := .boolean) hret (by simp) (hb hby d4_17) hr)
theorem own_okf {x : Int32} (h : -8 ≤ x.toInt ∧ x.toInt ≤ 7) : ¬ (f_rm4 x = (0 : Int32)) := by
  unfold f_rm4
  rw [if_neg (by rw [Int32.lt_iff_toInt_lt, show (-8 : Int32).toInt = -8 from by decide]; omega), if_neg (by rw [Int32.lt_iff_toInt_lt, show (7 : Int32).toInt = 7 from by decide]; omega)]
  decide
theorem own_b31 {oo k : Nat} (hi : oo + 16 ≤ 64) (hk : k < 16) : oo + k < 2 ^ 31 := by omega
theorem own_inb {oo k : Nat} (hi : oo + 16 ≤ 64) (hk : k < 16) : oo + k < 64 := by omega
theorem d3_0 : decode method_6_code 0 = .ok (.aload_n 0, 1) := by decide +kernel
theorem d3_1 : decode method_6_code 1 = .ok (.iload_n 1, 1) := by decide +kernel
theorem d3_2 : decode method_6_code 2 = .ok (.baload, 1) := by decide +kernel
theorem d3_3 : decode method_6_code 3 = .ok (.invokestatic 39, 3) := by decide +kernel
theorem d3_6 : decode method_6_code 6 = .ok (.ifCond .eq 182, 3) := by decide +kernel
theorem d3_9 : decode method_6_code 9 = .ok (.aload_n 0, 1) := by decide +kernel
theorem d3_10 : decode method_6_code 10 = .ok (.iload_n 1, 1) := by decide +kernel
theorem d3_11 : decode method_6_code 11 = .ok (.iconst 1, 1) := by decide +kernel
theorem d3_12 : decode method_6_code 12 = .ok (.iadd, 1) := by decide +kernel
theorem d3_13 : decode method_6_code 13 = .ok (.baload, 1) := by decide +kernel
theorem d3_14 : decode method_6_code 14 = .ok (.invokestatic 39, 3) := by decide +kernel
theorem d3_17 : decode method_6_code 17 = .ok (.ifCond .eq 171, 3) := by decide +kernel
theorem d3_20 : decode method_6_code 20 = .ok (.aload_n 0, 1) := by decide +kernel
theorem d3_21 : decode method_6_code 21 = .ok (.iload_n 1, 1) := by decide +kernel
theorem d3_22 : decode method_6_code 22 = .ok (.iconst 2, 1) := by decide +kernel
theorem d3_23 : decode method_6_code 23 = .ok (.iadd, 1) := by decide +kernel
theorem d3_24 : decode method_6_code 24 = .ok (.baload, 1) := by decide +kernel
theorem d3_25 : decode method_6_code 25 = .ok (.invokestatic 39, 3) := by decide +kernel
theorem d3_28 : decode method_6_code 28 = .ok (.ifCond .eq 160, 3) := by decide +kernel
theorem d3_31 : decode method_6_code 31 = .ok (.aload_n 0, 1) := by decide +kernel
theorem d3_32 : decode method_6_code 32 = .ok (.iload_n 1, 1) := by decide +kernel
theorem d3_33 : decode method_6_code 33 = .ok (.iconst 3, 1) := by decide +kernel
theorem d3_34 : decode method_6_code 34 = .ok (.iadd, 1) := by decide +kernel
theorem d3_35 : decode method_6_code 35 = .ok (.baload, 1) := by decide +kernel
theorem d3_36 : decode method_6_code 36 = .ok (.invokestatic 39, 3) := by decide +kernel
theorem d3_39 : decode method_6_code 39 = .ok (.ifCond .eq 149, 3) := by decide +kernel
theorem d3_42 : decode method_6_code 42 = .ok (.aload_n 0, 1) := by decide +kernel
theorem d3_43 : decode method_6_code 43 = .ok (.iload_n 1, 1) := by decide +kernel
theorem d3_44 : decode method_6_code 44 = .ok (.iconst 4, 1) := by decide +kernel
theorem d3_45 : decode method_6_code 45 = .ok (.iadd, 1) := by decide +kernel
theorem d3_46 : decode method_6_code 46 = .ok (.baload, 1) := by decide +kernel
theorem d3_47 : decode method_6_code 47 = .ok (.invokestatic 39, 3) := by decide +kernel
theorem d3_50 : decode method_6_code 50 = .ok (.ifCond .eq 138, 3) := by decide +kernel
theorem d3_53 : decode method_6_code 53 = .ok (.aload_n 0, 1) := by decide +kernel
theorem d3_54 : decode method_6_code 54 = .ok (.iload_n 1, 1) := by decide +kernel
theorem d3_55 : decode method_6_code 55 = .ok (.iconst 5, 1) := by decide +kernel
theorem d3_56 : decode method_6_code 56 = .ok (.iadd, 1) := by decide +kernel
theorem d3_57 : decode method_6_code 57 = .ok (.baload, 1) := by decide +kernel
theorem d3_58 : decode method_6_code 58 = .ok (.invokestatic 39, 3) := by decide +kernel
theorem d3_61 : decode method_6_code 61 = .ok (.ifCond .eq 127, 3) := by decide +kernel
theorem d3_64 : decode method_6_code 64 = .ok (.aload_n 0, 1) := by decide +kernel
theorem d3_65 : decode method_6_code 65 = .ok (.iload_n 1, 1) := by decide +kernel
theorem d3_66 : decode method_6_code 66 = .ok (.bipush 6, 2) := by decide +kernel
theorem d3_68 : decode method_6_code 68 = .ok (.iadd, 1) := by decide +kernel
theorem d3_69 : decode method_6_code 69 = .ok (.baload, 1) := by decide +kernel
theorem d3_70 : decode method_6_code 70 = .ok (.invokestatic 39, 3) := by decide +kernel
theorem d3_73 : decode method_6_code 73 = .ok (.ifCond .eq 115, 3) := by decide +kernel
theorem d3_76 : decode method_6_code 76 = .ok (.aload_n 0, 1) := by decide +kernel
theorem d3_77 : decode method_6_code 77 = .ok (.iload_n 1, 1) := by decide +kernel
theorem d3_78 : decode method_6_code 78 = .ok (.bipush 7, 2) := by decide +kernel
theorem d3_80 : decode method_6_code 80 = .ok (.iadd, 1) := by decide +kernel
theorem d3_81 : decode method_6_code 81 = .ok (.baload, 1) := by decide +kernel
theorem d3_82 : decode method_6_code 82 = .ok (.invokestatic 39, 3) := by decide +kernel
theorem d3_85 : decode method_6_code 85 = .ok (.ifCond .eq 103, 3) := by decide +kernel
theorem d3_88 : decode method_6_code 88 = .ok (.aload_n 0, 1) := by decide +kernel
theorem d3_89 : decode method_6_code 89 = .ok (.iload_n 1, 1) := by decide +kernel
theorem d3_90 : decode method_6_code 90 = .ok (.bipush 8, 2) := by decide +kernel
theorem d3_92 : decode method_6_code 92 = .ok (.iadd, 1) := by decide +kernel
theorem d3_93 : decode method_6_code 93 = .ok (.baload, 1) := by decide +kernel
theorem d3_94 : decode method_6_code 94 = .ok (.invokestatic 39, 3) := by decide +kernel
theorem d3_97 : decode method_6_code 97 = .ok (.ifCond .eq 91, 3) := by decide +kernel
theorem d3_100 : decode method_6_code 100 = .ok (.aload_n 0, 1) := by decide +kernel
theorem d3_101 : decode method_6_code 101 = .ok (.iload_n 1, 1) := by decide +kernel
theorem d3_102 : decode method_6_code 102 = .ok (.bipush 9, 2) := by decide +kernel
theorem d3_104 : decode method_6_code 104 = .ok (.iadd, 1) := by decide +kernel
theorem d3_105 : decode method_6_code 105 = .ok (.baload, 1) := by decide +kernel
theorem d3_106 : decode method_6_code 106 = .ok (.invokestatic 39, 3) := by decide +kernel
theorem d3_109 : decode method_6_code 109 = .ok (.ifCond .eq 79, 3) := by decide +kernel
theorem d3_112 : decode method_6_code 112 = .ok (.aload_n 0, 1) := by decide +kernel
theorem d3_113 : decode method_6_code 113 = .ok (.iload_n 1, 1) := by decide +kernel
theorem d3_114 : decode method_6_code 114 = .ok (.bipush 10, 2) := by decide +kernel
theorem d3_116 : decode method_6_code 116 = .ok (.iadd, 1) := by decide +kernel
theorem d3_117 : decode method_6_code 117 = .ok (.baload, 1) := by decide +kernel
theorem d3_118 : decode method_6_code 118 = .ok (.invokestatic 39, 3) := by decide +kernel
theorem d3_121 : decode method_6_code 121 = .ok (.ifCond .eq 67, 3) := by decide +kernel
theorem d3_124 : decode method_6_code 124 = .ok (.aload_n 0, 1) := by decide +kernel
theorem d3_125 : decode method_6_code 125 = .ok (.iload_n 1, 1) := by decide +kernel
theorem d3_126 : decode method_6_code 126 = .ok (.bipush 11, 2) := by decide +kernel
theorem d3_128 : decode method_6_code 128 = .ok (.iadd, 1) := by decide +kernel
theorem d3_129 : decode method_6_code 129 = .ok (.baload, 1) := by decide +kernel
theorem d3_130 : decode method_6_code 130 = .ok (.invokestatic 39, 3) := by decide +kernel
theorem d3_133 : decode method_6_code 133 = .ok (.ifCond .eq 55, 3) := by decide +kernel
theorem d3_136 : decode method_6_code 136 = .ok (.aload_n 0, 1) := by decide +kernel
theorem d3_137 : decode method_6_code 137 = .ok (.iload_n 1, 1) := by decide +kernel
theorem d3_138 : decode method_6_code 138 = .ok (.bipush 12, 2) := by decide +kernel
theorem d3_140 : decode method_6_code 140 = .ok (.iadd, 1) := by decide +kernel
theorem d3_141 : decode method_6_code 141 = .ok (.baload, 1) := by decide +kernel
theorem d3_142 : decode method_6_code 142 = .ok (.invokestatic 39, 3) := by decide +kernel
theorem d3_145 : decode method_6_code 145 = .ok (.ifCond .eq 43, 3) := by decide +kernel
theorem d3_148 : decode method_6_code 148 = .ok (.aload_n 0, 1) := by decide +kernel
theorem d3_149 : decode method_6_code 149 = .ok (.iload_n 1, 1) := by decide +kernel
theorem d3_150 : decode method_6_code 150 = .ok (.bipush 13, 2) := by decide +kernel
theorem d3_152 : decode method_6_code 152 = .ok (.iadd, 1) := by decide +kernel
theorem d3_153 : decode method_6_code 153 = .ok (.baload, 1) := by decide +kernel
theorem d3_154 : decode method_6_code 154 = .ok (.invokestatic 39, 3) := by decide +kernel
theorem d3_157 : decode method_6_code 157 = .ok (.ifCond .eq 31, 3) := by decide +kernel
theorem d3_160 : decode method_6_code 160 = .ok (.aload_n 0, 1) := by decide +kernel
theorem d3_161 : decode method_6_code 161 = .ok (.iload_n 1, 1) := by decide +kernel
theorem d3_162 : decode method_6_code 162 = .ok (.bipush 14, 2) := by decide +kernel
theorem d3_164 : decode method_6_code 164 = .ok (.iadd, 1) := by decide +kernel
theorem d3_165 : decode method_6_code 165 = .ok (.baload, 1) := by decide +kernel
theorem d3_166 : decode method_6_code 166 = .ok (.invokestatic 39, 3) := by decide +kernel
theorem d3_169 : decode method_6_code 169 = .ok (.ifCond .eq 19, 3) := by decide +kernel
theorem d3_172 : decode method_6_code 172 = .ok (.aload_n 0, 1) := by decide +kernel
theorem d3_173 : decode method_6_code 173 = .ok (.iload_n 1, 1) := by decide +kernel
theorem d3_174 : decode method_6_code 174 = .ok (.bipush 15, 2) := by decide +kernel
theorem d3_176 : decode method_6_code 176 = .ok (.iadd, 1) := by decide +kernel
theorem d3_177 : decode method_6_code 177 = .ok (.baload, 1) := by decide +kernel
theorem d3_178 : decode method_6_code 178 = .ok (.invokestatic 39, 3) := by decide +kernel
theorem d3_181 : decode method_6_code 181 = .ok (.ifCond .eq 7, 3) := by decide +kernel
theorem d3_184 : decode method_6_code 184 = .ok (.iconst 1, 1) := by decide +kernel
theorem d3_185 : decode method_6_code 185 = .ok (.goto 4, 3) := by decide +kernel
theorem d3_188 : decode method_6_code 188 = .ok (.iconst 0, 1) := by decide +kernel
theorem d3_189 : decode method_6_code 189 = .ok (.ireturn, 1) := by decide +kernel
theorem ef_rm3 (m : MethodId) (a1 : Addr) (p1 : Int32) : entryFrame m #[(.ref a1), (.int p1)] 2 = mkF m 0 #[.val (.ref a1), .val (.int p1)] [] := by first | (simp [entryFrame, mkF, argsToLocals, Value.category]; done) | rfl
def Q_rm3 (Z : State) (a1 : Addr) (p1 : Int32) (F : Nat → Int32) (oo : Nat) (h0 : Heap) (n0 : Nat) (v : Option Value) (h : Heap) (L : List Loc) : Prop := v = some (.int (1 : Int32)) ∧ Fr n0 L ∧ h = h0
set_option maxRecDepth 65536 in
set_option maxHeartbeats 40000000 in
theorem rm3 (l : Launch) (Z : State) (a0 : Array Value) (hw : ∀ d ∈ tables_1, d.before a0 Z = true) (ws : List Jvm.Cond) (a1 : Addr) (p1 : Int32) (F : Nat → Int32) (oo : Nat) (h0 : Heap) (n0 : Nat) (Z0 : n0 ≤ h0.size) (A0 : AF Z h0 a1 .byte 64 (fun j => .int (F j))) (hj : p1.toInt = (oo : Int)) (hi : oo + 16 ≤ 64) (hb0 : ∀ t, t < 16 → -8 ≤ (F (oo + t)).toInt ∧ (F (oo + t)).toInt ≤ 7) :
    MetFree l (⟨"com/example/withhold/withhold/crypto/Ed25519ScalarsDigitsPinLaw", "chunkOk", "([BI)Z"⟩ : MethodName) (head1 (Jvm.Cond.code (⟨"com/example/withhold/withhold/crypto/Ed25519ScalarsDigitsPinLaw", "chunkOk", "([BI)Z"⟩ : MethodName) method_6_code 2 (some .boolean) :: ws) ({ frames := 1, cells := 0, slots := 0, locals := 12 } : Room)) (fun a U => a = #[(.ref a1), (.int p1)] ∧ Z.Warmed39 U.vm ∧ U.heap = h0) (fun _ _ _ _ _ => True) (fun _ U o U' => ∃ v L, o = .returned v ∧ Q_rm3 Z a1 p1 F oo h0 n0 v U'.heap L ∧ FrameEnd U o U' L ({ frames := 1, cells := 0, slots := 0, locals := 12 } : Room).cells ({ frames := 1, cells := 0, slots := 0, locals := 12 } : Room).slots) := by
  refine own_body (Q := Q_rm3 Z a1 p1 F oo h0 n0) (plainFor_of_name pn_8) ?_
  intro p e s m below meth c s₁ K go fin X0 hx hby hml hown hnm hret hZ e0
  have hown : s.vm.findClass "com/example/withhold/withhold/crypto/Ed25519ScalarsDigitsPinLaw" = some m.cls := hown
  have N0 := Fr.nil n0
  refine go _ (s₁.setTop (mkF m 0 #[.val (.ref a1), .val (.int p1)] [])) (fun t k => castTop (ef_rm3 m a1 p1) k) ?_
  have hk0 := hj
  have hk1 := own_plus hj 1 (1 : Int32) (by decide) (own_b31 hi (by decide))
  have hk2 := own_plus hj 2 (2 : Int32) (by decide) (own_b31 hi (by decide))
  have hk3 := own_plus hj 3 (3 : Int32) (by decide) (own_b31 hi (by decide))
  have hk4 := own_plus hj 4 (4 : Int32) (by decide) (own_b31 hi (by decide))
  have hk5 := own_plus hj 5 (5 : Int32) (by decide) (own_b31 hi (by decide))
  have hk6 := own_plus hj 6 (6 : Int32) (by decide) (own_b31 hi (by decide))
  have hk7 := own_plus hj 7 (7 : Int32) (by decide) (own_b31 hi (by decide))
  have hk8 := own_plus hj 8 (8 : Int32) (by decide) (own_b31 hi (by decide))
  have hk9 := own_plus hj 9 (9 : Int32) (by decide) (own_b31 hi (by decide))
  have hk10 := own_plus hj 10 (10 : Int32) (by decide) (own_b31 hi (by decide))
  have hk11 := own_plus hj 11 (11 : Int32) (by decide) (own_b31 hi (by decide))
  have hk12 := own_plus hj 12 (12 : Int32) (by decide) (own_b31 hi (by decide))
  have hk13 := own_plus hj 13 (13 : Int32) (by decide) (own_b31 hi (by decide))
  have hk14 := own_plus hj 14 (14 : Int32) (by decide) (own_b31 hi (by decide))
  have hk15 := own_plus hj 15 (15 : Int32) (by decide) (own_b31 hi (by decide))
  refine go _ (s₁.setTop (mkF m 1 #[.val (.ref a1), .val (.int p1)] [(.ref a1)])) (fun t k => XS.aloadN X0.here hx rfl (hb hby d3_0) rfl rfl k) ?_
  refine go _ (s₁.setTop (mkF m 2 #[.val (.ref a1), .val (.int p1)] [(.int p1), (.ref a1)])) (fun t k => XS.iloadN X0.here hx rfl (hb hby d3_1) rfl k) ?_
  refine go _ (s₁.setTop (mkF m 3 #[.val (.ref a1), .val (.int p1)] [(.int (F oo))])) (own_ldB X0 hx hZ e0 A0 (i := oo) hk0 (own_inb hi (k := 0) (by decide)) (g := (mkF m 2 #[.val (.ref a1), .val (.int p1)] [(.int p1), (.ref a1)])) rfl rfl (hb hby d3_2) (v := (.int (F oo))) rfl) ?_
  obtain ⟨_, _, ⟨T65, L65, k65, n65⟩, -, X65, ⟨Lc65, hQ65, l65, y65, z65⟩, st65⟩ := Jvm.LawKit.callS X0 hx (y := (⟨"com/example/withhold/withhold/crypto/Ed25519ScalarsDigitsPinLaw", "ok", "(I)Z"⟩ : MethodName)) hown (mvT hZ (hw _ (List.mem_of_getElem? (i := 13) rfl))) (mvT hZ (hw _ (List.mem_of_getElem? (i := 14) rfl))) (mvT hZ (hw _ (List.mem_of_getElem? (i := 4) rfl))) (mvT hZ (hw _ (List.mem_of_getElem? (i := 15) rfl))) (by decide) (backOf (W := 0) (rm4 l Z a0 hw [] (F oo)  h0 n0 Z0 ) hZ (hw _ (List.mem_of_getElem? (i := 15) rfl)) (hw _ (List.mem_of_getElem? (i := 4) rfl)) (by decide) (by decide)) (g := (mkF m 3 #[.val (.ref a1), .val (.int p1)] [(.int (F oo))])) rfl (by rw [hml]; rfl) (argsL := [(.int (F oo))]) (rest := []) (lenOf pd_4 rfl) rfl (by show 2 * 0 + _ ≤ _; exact Nat.le_of_eq rfl) (hb hby d3_3) (fun _ _ => ⟨rfl, e0, (by decide : 0 + 0 ≤ _), (by decide : 0 + 0 ≤ _)⟩)
  dsimp only [Pt.U, Pt.locs, Pt.cells, Pt.slots] at X65 l65 y65 z65 st65 hQ65
  rw [l65, y65, z65] at X65
  obtain ⟨rfl, Nq65, hh65⟩ := hQ65
  have N66 := Fr.app N0 Nq65
  have X65 : Stand p l e ({ frames := 1, cells := 0, slots := 0, locals := 12 } : Room) s m _ below meth c T65 _ 0 0 := X65
  refine go _ (T65.setTop (mkF m 6 #[.val (.ref a1), .val (.int p1)] [(.int (f_rm4 (F oo)))])) (st65) ?_
  have hc67 : ¬ ((f_rm4 (F oo)) = (0 : Int32)) := own_okf (hb0 0 (by decide))
  refine go _ (T65.setTop (mkF m 9 #[.val (.ref a1), .val (.int p1)] [])) (fun t k => XS.ifNo X65.here hx rfl (hb hby d3_6) rfl ((if0 _ _).trans (feq hc67).1) k) ?_
  refine go _ (T65.setTop (mkF m 10 #[.val (.ref a1), .val (.int p1)] [(.ref a1)])) (fun t k => XS.aloadN X65.here hx rfl (hb hby d3_9) rfl rfl k) ?_
  refine go _ (T65.setTop (mkF m 11 #[.val (.ref a1), .val (.int p1)] [(.int p1), (.ref a1)])) (fun t k => XS.iloadN X65.here hx rfl (hb hby d3_10) rfl k) ?_
  refine go _ (T65.setTop (mkF m 12 #[.val (.ref a1), .val (.int p1)] [(.int (1 : Int32)), (.int p1), (.ref a1)])) (fun t k => XS.iconst X65.here hx rfl (hb hby d3_11) k) ?_
  refine go _ (T65.setTop (mkF m 13 #[.val (.ref a1), .val (.int p1)] [(.int (p1 + (1 : Int32))), (.ref a1)])) (fun t k => XS.iadd X65.here hx rfl (hb hby d3_12) rfl k) ?_
  refine go _ (T65.setTop (mkF m 14 #[.val (.ref a1), .val (.int p1)] [(.int (F (oo + 1)))])) (own_ldB X65 hx hZ hh65 A0 (i := (oo + 1)) hk1 (own_inb hi (k := 1) (by decide)) (g := (mkF m 13 #[.val (.ref a1), .val (.int p1)] [(.int (p1 + (1 : Int32))), (.ref a1)])) rfl rfl (hb hby d3_13) (v := (.int (F (oo + 1)))) rfl) ?_
  obtain ⟨_, _, ⟨T68, L68, k68, n68⟩, -, X68, ⟨Lc68, hQ68, l68, y68, z68⟩, st68⟩ := Jvm.LawKit.callS X65 hx (y := (⟨"com/example/withhold/withhold/crypto/Ed25519ScalarsDigitsPinLaw", "ok", "(I)Z"⟩ : MethodName)) hown (mvT hZ (hw _ (List.mem_of_getElem? (i := 13) rfl))) (mvT hZ (hw _ (List.mem_of_getElem? (i := 14) rfl))) (mvT hZ (hw _ (List.mem_of_getElem? (i := 4) rfl))) (mvT hZ (hw _ (List.mem_of_getElem? (i := 15) rfl))) (by decide) (backOf (W := 0) (rm4 l Z a0 hw [] (F (oo + 1))  h0 n0 Z0 ) hZ (hw _ (List.mem_of_getElem? (i := 15) rfl)) (hw _ (List.mem_of_getElem? (i := 4) rfl)) (by decide) (by decide)) (g := (mkF m 14 #[.val (.ref a1), .val (.int p1)] [(.int (F (oo + 1)))])) rfl (by rw [hml]; rfl) (argsL := [(.int (F (oo + 1)))]) (rest := []) (lenOf pd_4 rfl) rfl (by show 2 * 0 + _ ≤ _; exact Nat.le_of_eq rfl) (hb hby d3_14) (fun _ _ => ⟨rfl, hh65, (by decide : 0 + 0 ≤ _), (by decide : 0 + 0 ≤ _)⟩)
  dsimp only [Pt.U, Pt.locs, Pt.cells, Pt.slots] at X68 l68 y68 z68 st68 hQ68
  rw [l68, y68, z68] at X68
  obtain ⟨rfl, Nq68, hh68⟩ := hQ68
  have N69 := Fr.app N66 Nq68
  have X68 : Stand p l e ({ frames := 1, cells := 0, slots := 0, locals := 12 } : Room) s m _ below meth c T68 _ 0 0 := X68
  refine go _ (T68.setTop (mkF m 17 #[.val (.ref a1), .val (.int p1)] [(.int (f_rm4 (F (oo + 1))))])) (st68) ?_
  have hc70 : ¬ ((f_rm4 (F (oo + 1))) = (0 : Int32)) := own_okf (hb0 1 (by decide))
  refine go _ (T68.setTop (mkF m 20 #[.val (.ref a1), .val (.int p1)] [])) (fun t k => XS.ifNo X68.here hx rfl (hb hby d3_17) rfl ((if0 _ _).trans (feq hc70).1) k) ?_
  refine go _ (T68.setTop (mkF m 21 #[.val (.ref a1), .val (.int p1)] [(.ref a1)])) (fun t k => XS.aloadN X68.here hx rfl (hb hby d3_20) rfl rfl k) ?_
  refine go _ (T68.setTop (mkF m 22 #[.val (.ref a1), .val (.int p1)] [(.int p1), (.ref a1)])) (fun t k => XS.iloadN X68.here hx rfl (hb hby d3_21) rfl k) ?_
  refine go _ (T68.setTop (mkF m 23 #[.val (.ref a1), .val (.int p1)] [(.int (2 : Int32)), (.int p1), (.ref a1)])) (fun t k => XS.iconst X68.here hx rfl (hb hby d3_22) k) ?_
  refine go _ (T68.setTop (mkF m 24 #[.val (.ref a1), .val (.int p1)] [(.int (p1 + (2 : Int32))), (.ref a1)])) (fun t k => XS.iadd X68.here hx rfl (hb hby d3_23) rfl k) ?_
  refine go _ (T68.setTop (mkF m 25 #[.val (.ref a1), .val (.int p1)] [(.int (F (oo + 2)))])) (own_ldB X68 hx hZ hh68 A0 (i := (oo + 2)) hk2 (own_inb hi (k := 2) (by decide)) (g := (mkF m 24 #[.val (.ref a1), .val (.int p1)] [(.int (p1 + (2 : Int32))), (.ref a1)])) rfl rfl (hb hby d3_24) (v := (.int (F (oo + 2)))) rfl) ?_
  obtain ⟨_, _, ⟨T71, L71, k71, n71⟩, -, X71, ⟨Lc71, hQ71, l71, y71, z71⟩, st71⟩ := Jvm.LawKit.callS X68 hx (y := (⟨"com/example/withhold/withhold/crypto/Ed25519ScalarsDigitsPinLaw", "ok", "(I)Z"⟩ : MethodName)) hown (mvT hZ (hw _ (List.mem_of_getElem? (i := 13) rfl))) (mvT hZ (hw _ (List.mem_of_getElem? (i := 14) rfl))) (mvT hZ (hw _ (List.mem_of_getElem? (i := 4) rfl))) (mvT hZ (hw _ (List.mem_of_getElem? (i := 15) rfl))) (by decide) (backOf (W := 0) (rm4 l Z a0 hw [] (F (oo + 2))  h0 n0 Z0 ) hZ (hw _ (List.mem_of_getElem? (i := 15) rfl)) (hw _ (List.mem_of_getElem? (i := 4) rfl)) (by decide) (by decide)) (g := (mkF m 25 #[.val (.ref a1), .val (.int p1)] [(.int (F (oo + 2)))])) rfl (by rw [hml]; rfl) (argsL := [(.int (F (oo + 2)))]) (rest := []) (lenOf pd_4 rfl) rfl (by show 2 * 0 + _ ≤ _; exact Nat.le_of_eq rfl) (hb hby d3_25) (fun _ _ => ⟨rfl, hh68, (by decide : 0 + 0 ≤ _), (by decide : 0 + 0 ≤ _)⟩)
  dsimp only [Pt.U, Pt.locs, Pt.cells, Pt.slots] at X71 l71 y71 z71 st71 hQ71
  rw [l71, y71, z71] at X71
  obtain ⟨rfl, Nq71, hh71⟩ := hQ71
  have N72 := Fr.app N69 Nq71
  have X71 : Stand p l e ({ frames := 1, cells := 0, slots := 0, locals := 12 } : Room) s m _ below meth c T71 _ 0 0 := X71
  refine go _ (T71.setTop (mkF m 28 #[.val (.ref a1), .val (.int p1)] [(.int (f_rm4 (F (oo + 2))))])) (st71) ?_
  have hc73 : ¬ ((f_rm4 (F (oo + 2))) = (0 : Int32)) := own_okf (hb0 2 (by decide))
  refine go _ (T71.setTop (mkF m 31 #[.val (.ref a1), .val (.int p1)] [])) (fun t k => XS.ifNo X71.here hx rfl (hb hby d3_28) rfl ((if0 _ _).trans (feq hc73).1) k) ?_
  refine go _ (T71.setTop (mkF m 32 #[.val (.ref a1), .val (.int p1)] [(.ref a1)])) (fun t k => XS.aloadN X71.here hx rfl (hb hby d3_31) rfl rfl k) ?_
  refine go _ (T71.setTop (mkF m 33 #[.val (.ref a1), .val (.int p1)] [(.int p1), (.ref a1)])) (fun t k => XS.iloadN X71.here hx rfl (hb hby d3_32) rfl k) ?_
  refine go _ (T71.setTop (mkF m 34 #[.val (.ref a1), .val (.int p1)] [(.int (3 : Int32)), (.int p1), (.ref a1)])) (fun t k => XS.iconst X71.here hx rfl (hb hby d3_33) k) ?_
  refine go _ (T71.setTop (mkF m 35 #[.val (.ref a1), .val (.int p1)] [(.int (p1 + (3 : Int32))), (.ref a1)])) (fun t k => XS.iadd X71.here hx rfl (hb hby d3_34) rfl k) ?_
  refine go _ (T71.setTop (mkF m 36 #[.val (.ref a1), .val (.int p1)] [(.int (F (oo + 3)))])) (own_ldB X71 hx hZ hh71 A0 (i := (oo + 3)) hk3 (own_inb hi (k := 3) (by decide)) (g := (mkF m 35 #[.val (.ref a1), .val (.int p1)] [(.int (p1 + (3 : Int32))), (.ref a1)])) rfl rfl (hb hby d3_35) (v := (.int (F (oo + 3)))) rfl) ?_
  obtain ⟨_, _, ⟨T74, L74, k74, n74⟩, -, X74, ⟨Lc74, hQ74, l74, y74, z74⟩, st74⟩ := Jvm.LawKit.callS X71 hx (y := (⟨"com/example/withhold/withhold/crypto/Ed25519ScalarsDigitsPinLaw", "ok", "(I)Z"⟩ : MethodName)) hown (mvT hZ (hw _ (List.mem_of_getElem? (i := 13) rfl))) (mvT hZ (hw _ (List.mem_of_getElem? (i := 14) rfl))) (mvT hZ (hw _ (List.mem_of_getElem? (i := 4) rfl))) (mvT hZ (hw _ (List.mem_of_getElem? (i := 15) rfl))) (by decide) (backOf (W := 0) (rm4 l Z a0 hw [] (F (oo + 3))  h0 n0 Z0 ) hZ (hw _ (List.mem_of_getElem? (i := 15) rfl)) (hw _ (List.mem_of_getElem? (i := 4) rfl)) (by decide) (by decide)) (g := (mkF m 36 #[.val (.ref a1), .val (.int p1)] [(.int (F (oo + 3)))])) rfl (by rw [hml]; rfl) (argsL := [(.int (F (oo + 3)))]) (rest := []) (lenOf pd_4 rfl) rfl (by show 2 * 0 + _ ≤ _; exact Nat.le_of_eq rfl) (hb hby d3_36) (fun _ _ => ⟨rfl, hh71, (by decide : 0 + 0 ≤ _), (by decide : 0 + 0 ≤ _)⟩)
  dsimp only [Pt.U, Pt.locs, Pt.cells, Pt.slots] at X74 l74 y74 z74 st74 hQ74
  rw [l74, y74, z74] at X74
  obtain ⟨rfl, Nq74, hh74⟩ := hQ74
  have N75 := Fr.app N72 Nq74
  have X74 : Stand p l e ({ frames := 1, cells := 0, slots := 0, locals := 12 } : Room) s m _ below meth c T74 _ 0 0 := X74
  refine go _ (T74.setTop (mkF m 39 #[.val (.ref a1), .val (.int p1)] [(.int (f_rm4 (F (oo + 3))))])) (st74) ?_
  have hc76 : ¬ ((f_rm4 (F (oo + 3))) = (0 : Int32)) := own_okf (hb0 3 (by decide))
  refine go _ (T74.setTop (mkF m 42 #[.val (.ref a1), .val (.int p1)] [])) (fun t k => XS.ifNo X74.here hx rfl (hb hby d3_39) rfl ((if0 _ _).trans (feq hc76).1) k) ?_
  refine go _ (T74.setTop (mkF m 43 #[.val (.ref a1), .val (.int p1)] [(.ref a1)])) (fun t k => XS.aloadN X74.here hx rfl (hb hby d3_42) rfl rfl k) ?_
  refine go _ (T74.setTop (mkF m 44 #[.val (.ref a1), .val (.int p1)] [(.int p1), (.ref a1)])) (fun t k => XS.iloadN X74.here hx rfl (hb hby d3_43) rfl k) ?_
  refine go _ (T74.setTop (mkF m 45 #[.val (.ref a1), .val (.int p1)] [(.int (4 : Int32)), (.int p1), (.ref a1)])) (fun t k => XS.iconst X74.here hx rfl (hb hby d3_44) k) ?_
  refine go _ (T74.setTop (mkF m 46 #[.val (.ref a1), .val (.int p1)] [(.int (p1 + (4 : Int32))), (.ref a1)])) (fun t k => XS.iadd X74.here hx rfl (hb hby d3_45) rfl k) ?_
  refine go _ (T74.setTop (mkF m 47 #[.val (.ref a1), .val (.int p1)] [(.int (F (oo + 4)))])) (own_ldB X74 hx hZ hh74 A0 (i := (oo + 4)) hk4 (own_inb hi (k := 4) (by decide)) (g := (mkF m 46 #[.val (.ref a1), .val (.int p1)] [(.int (p1 + (4 : Int32))), (.ref a1)])) rfl rfl (hb hby d3_46) (v := (.int (F (oo + 4)))) rfl) ?_
  obtain ⟨_, _, ⟨T77, L77, k77, n77⟩, -, X77, ⟨Lc77, hQ77, l77, y77, z77⟩, st77⟩ := Jvm.LawKit.callS X74 hx (y := (⟨"com/example/withhold/withhold/crypto/Ed25519ScalarsDigitsPinLaw", "ok", "(I)Z"⟩ : MethodName)) hown (mvT hZ (hw _ (List.mem_of_getElem? (i := 13) rfl))) (mvT hZ (hw _ (List.mem_of_getElem? (i := 14) rfl))) (mvT hZ (hw _ (List.mem_of_getElem? (i := 4) rfl))) (mvT hZ (hw _ (List.mem_of_getElem? (i := 15) rfl))) (by decide) (backOf (W := 0) (rm4 l Z a0 hw [] (F (oo + 4))  h0 n0 Z0 ) hZ (hw _ (List.mem_of_getElem? (i := 15) rfl)) (hw _ (List.mem_of_getElem? (i := 4) rfl)) (by decide) (by decide)) (g := (mkF m 47 #[.val (.ref a1), .val (.int p1)] [(.int (F (oo + 4)))])) rfl (by rw [hml]; rfl) (argsL := [(.int (F (oo + 4)))]) (rest := []) (lenOf pd_4 rfl) rfl (by show 2 * 0 + _ ≤ _; exact Nat.le_of_eq rfl) (hb hby d3_47) (fun _ _ => ⟨rfl, hh74, (by decide : 0 + 0 ≤ _), (by decide : 0 + 0 ≤ _)⟩)
  dsimp only [Pt.U, Pt.locs, Pt.cells, Pt.slots] at X77 l77 y77 z77 st77 hQ77
  rw [l77, y77, z77] at X77
  obtain ⟨rfl, Nq77, hh77⟩ := hQ77
  have N78 := Fr.app N75 Nq77
  have X77 : Stand p l e ({ frames := 1, cells := 0, slots := 0, locals := 12 } : Room) s m _ below meth c T77 _ 0 0 := X77
  refine go _ (T77.setTop (mkF m 50 #[.val (.ref a1), .val (.int p1)] [(.int (f_rm4 (F (oo + 4))))])) (st77) ?_
  have hc79 : ¬ ((f_rm4 (F (oo + 4))) = (0 : Int32)) := own_okf (hb0 4 (by decide))
  refine go _ (T77.setTop (mkF m 53 #[.val (.ref a1), .val (.int p1)] [])) (fun t k => XS.ifNo X77.here hx rfl (hb hby d3_50) rfl ((if0 _ _).trans (feq hc79).1) k) ?_
  refine go _ (T77.setTop (mkF m 54 #[.val (.ref a1), .val (.int p1)] [(.ref a1)])) (fun t k => XS.aloadN X77.here hx rfl (hb hby d3_53) rfl rfl k) ?_
  refine go _ (T77.setTop (mkF m 55 #[.val (.ref a1), .val (.int p1)] [(.int p1), (.ref a1)])) (fun t k => XS.iloadN X77.here hx rfl (hb hby d3_54) rfl k) ?_
  refine go _ (T77.setTop (mkF m 56 #[.val (.ref a1), .val (.int p1)] [(.int (5 : Int32)), (.int p1), (.ref a1)])) (fun t k => XS.iconst X77.here hx rfl (hb hby d3_55) k) ?_
  refine go _ (T77.setTop (mkF m 57 #[.val (.ref a1), .val (.int p1)] [(.int (p1 + (5 : Int32))), (.ref a1)])) (fun t k => XS.iadd X77.here hx rfl (hb hby d3_56) rfl k) ?_
  refine go _ (T77.setTop (mkF m 58 #[.val (.ref a1), .val (.int p1)] [(.int (F (oo + 5)))])) (own_ldB X77 hx hZ hh77 A0 (i := (oo + 5)) hk5 (own_inb hi (k := 5) (by decide)) (g := (mkF m 57 #[.val (.ref a1), .val (.int p1)] [(.int (p1 + (5 : Int32))), (.ref a1)])) rfl rfl (hb hby d3_57) (v := (.int (F (oo + 5)))) rfl) ?_
  obtain ⟨_, _, ⟨T80, L80, k80, n80⟩, -, X80, ⟨Lc80, hQ80, l80, y80, z80⟩, st80⟩ := Jvm.LawKit.callS X77 hx (y := (⟨"com/example/withhold/withhold/crypto/Ed25519ScalarsDigitsPinLaw", "ok", "(I)Z"⟩ : MethodName)) hown (mvT hZ (hw _ (List.mem_of_getElem? (i := 13) rfl))) (mvT hZ (hw _ (List.mem_of_getElem? (i := 14) rfl))) (mvT hZ (hw _ (List.mem_of_getElem? (i := 4) rfl))) (mvT hZ (hw _ (List.mem_of_getElem? (i := 15) rfl))) (by decide) (backOf (W := 0) (rm4 l Z a0 hw [] (F (oo + 5))  h0 n0 Z0 ) hZ (hw _ (List.mem_of_getElem? (i := 15) rfl)) (hw _ (List.mem_of_getElem? (i := 4) rfl)) (by decide) (by decide)) (g := (mkF m 58 #[.val (.ref a1), .val (.int p1)] [(.int (F (oo + 5)))])) rfl (by rw [hml]; rfl) (argsL := [(.int (F (oo + 5)))]) (rest := []) (lenOf pd_4 rfl) rfl (by show 2 * 0 + _ ≤ _; exact Nat.le_of_eq rfl) (hb hby d3_58) (fun _ _ => ⟨rfl, hh77, (by decide : 0 + 0 ≤ _), (by decide : 0 + 0 ≤ _)⟩)
  dsimp only [Pt.U, Pt.locs, Pt.cells, Pt.slots] at X80 l80 y80 z80 st80 hQ80
  rw [l80, y80, z80] at X80
  obtain ⟨rfl, Nq80, hh80⟩ := hQ80
  have N81 := Fr.app N78 Nq80
  have X80 : Stand p l e ({ frames := 1, cells := 0, slots := 0, locals := 12 } : Room) s m _ below meth c T80 _ 0 0 := X80
  refine go _ (T80.setTop (mkF m 61 #[.val (.ref a1), .val (.int p1)] [(.int (f_rm4 (F (oo + 5))))])) (st80) ?_
  have hc82 : ¬ ((f_rm4 (F (oo + 5))) = (0 : Int32)) := own_okf (hb0 5 (by decide))
  refine go _ (T80.setTop (mkF m 64 #[.val (.ref a1), .val (.int p1)] [])) (fun t k => XS.ifNo X80.here hx rfl (hb hby d3_61) rfl ((if0 _ _).trans (feq hc82).1) k) ?_
  refine go _ (T80.setTop (mkF m 65 #[.val (.ref a1), .val (.int p1)] [(.ref a1)])) (fun t k => XS.aloadN X80.here hx rfl (hb hby d3_64) rfl rfl k) ?_
  refine go _ (T80.setTop (mkF m 66 #[.val (.ref a1), .val (.int p1)] [(.int p1), (.ref a1)])) (fun t k => XS.iloadN X80.here hx rfl (hb hby d3_65) rfl k) ?_
  refine go _ (T80.setTop (mkF m 68 #[.val (.ref a1), .val (.int p1)] [(.int (6 : Int32)), (.int p1), (.ref a1)])) (fun t k => XS.bipush X80.here hx rfl (hb hby d3_66) k) ?_
  refine go _ (T80.setTop (mkF m 69 #[.val (.ref a1), .val (.int p1)] [(.int (p1 + (6 : Int32))), (.ref a1)])) (fun t k => XS.iadd X80.here hx rfl (hb hby d3_68) rfl k) ?_
  refine go _ (T80.setTop (mkF m 70 #[.val (.ref a1), .val (.int p1)] [(.int (F (oo + 6)))])) (own_ldB X80 hx hZ hh80 A0 (i := (oo + 6)) hk6 (own_inb hi (k := 6) (by decide)) (g := (mkF m 69 #[.val (.ref a1), .val (.int p1)] [(.int (p1 + (6 : Int32))), (.ref a1)])) rfl rfl (hb hby d3_69) (v := (.int (F (oo + 6)))) rfl) ?_
  obtain ⟨_, _, ⟨T83, L83, k83, n83⟩, -, X83, ⟨Lc83, hQ83, l83, y83, z83⟩, st83⟩ := Jvm.LawKit.callS X80 hx (y := (⟨"com/example/withhold/withhold/crypto/Ed25519ScalarsDigitsPinLaw", "ok", "(I)Z"⟩ : MethodName)) hown (mvT hZ (hw _ (List.mem_of_getElem? (i := 13) rfl))) (mvT hZ (hw _ (List.mem_of_getElem? (i := 14) rfl))) (mvT hZ (hw _ (List.mem_of_getElem? (i := 4) rfl))) (mvT hZ (hw _ (List.mem_of_getElem? (i := 15) rfl))) (by decide) (backOf (W := 0) (rm4 l Z a0 hw [] (F (oo + 6))  h0 n0 Z0 ) hZ (hw _ (List.mem_of_getElem? (i := 15) rfl)) (hw _ (List.mem_of_getElem? (i := 4) rfl)) (by decide) (by decide)) (g := (mkF m 70 #[.val (.ref a1), .val (.int p1)] [(.int (F (oo + 6)))])) rfl (by rw [hml]; rfl) (argsL := [(.int (F (oo + 6)))]) (rest := []) (lenOf pd_4 rfl) rfl (by show 2 * 0 + _ ≤ _; exact Nat.le_of_eq rfl) (hb hby d3_70) (fun _ _ => ⟨rfl, hh80, (by decide : 0 + 0 ≤ _), (by decide : 0 + 0 ≤ _)⟩)
  dsimp only [Pt.U, Pt.locs, Pt.cells, Pt.slots] at X83 l83 y83 z83 st83 hQ83
  rw [l83, y83, z83] at X83
  obtain ⟨rfl, Nq83, hh83⟩ := hQ83
  have N84 := Fr.app N81 Nq83
  have X83 : Stand p l e ({ frames := 1, cells := 0, slots := 0, locals := 12 } : Room) s m _ below meth c T83 _ 0 0 := X83
  refine go _ (T83.setTop (mkF m 73 #[.val (.ref a1), .val (.int p1)] [(.int (f_rm4 (F (oo + 6))))])) (st83) ?_
  have hc85 : ¬ ((f_rm4 (F (oo + 6))) = (0 : Int32)) := own_okf (hb0 6 (by decide))
  refine go _ (T83.setTop (mkF m 76 #[.val (.ref a1), .val (.int p1)] [])) (fun t k => XS.ifNo X83.here hx rfl (hb hby d3_73) rfl ((if0 _ _).trans (feq hc85).1) k) ?_
  refine go _ (T83.setTop (mkF m 77 #[.val (.ref a1), .val (.int p1)] [(.ref a1)])) (fun t k => XS.aloadN X83.here hx rfl (hb hby d3_76) rfl rfl k) ?_
  refine go _ (T83.setTop (mkF m 78 #[.val (.ref a1), .val (.int p1)] [(.int p1), (.ref a1)])) (fun t k => XS.iloadN X83.here hx rfl (hb hby d3_77) rfl k) ?_
  refine go _ (T83.setTop (mkF m 80 #[.val (.ref a1), .val (.int p1)] [(.int (7 : Int32)), (.int p1), (.ref a1)])) (fun t k => XS.bipush X83.here hx rfl (hb hby d3_78) k) ?_
  refine go _ (T83.setTop (mkF m 81 #[.val (.ref a1), .val (.int p1)] [(.int (p1 + (7 : Int32))), (.ref a1)])) (fun t k => XS.iadd X83.here hx rfl (hb hby d3_80) rfl k) ?_
  refine go _ (T83.setTop (mkF m 82 #[.val (.ref a1), .val (.int p1)] [(.int (F (oo + 7)))])) (own_ldB X83 hx hZ hh83 A0 (i := (oo + 7)) hk7 (own_inb hi (k := 7) (by decide)) (g := (mkF m 81 #[.val (.ref a1), .val (.int p1)] [(.int (p1 + (7 : Int32))), (.ref a1)])) rfl rfl (hb hby d3_81) (v := (.int (F (oo + 7)))) rfl) ?_
  obtain ⟨_, _, ⟨T86, L86, k86, n86⟩, -, X86, ⟨Lc86, hQ86, l86, y86, z86⟩, st86⟩ := Jvm.LawKit.callS X83 hx (y := (⟨"com/example/withhold/withhold/crypto/Ed25519ScalarsDigitsPinLaw", "ok", "(I)Z"⟩ : MethodName)) hown (mvT hZ (hw _ (List.mem_of_getElem? (i := 13) rfl))) (mvT hZ (hw _ (List.mem_of_getElem? (i := 14) rfl))) (mvT hZ (hw _ (List.mem_of_getElem? (i := 4) rfl))) (mvT hZ (hw _ (List.mem_of_getElem? (i := 15) rfl))) (by decide) (backOf (W := 0) (rm4 l Z a0 hw [] (F (oo + 7))  h0 n0 Z0 ) hZ (hw _ (List.mem_of_getElem? (i := 15) rfl)) (hw _ (List.mem_of_getElem? (i := 4) rfl)) (by decide) (by decide)) (g := (mkF m 82 #[.val (.ref a1), .val (.int p1)] [(.int (F (oo + 7)))])) rfl (by rw [hml]; rfl) (argsL := [(.int (F (oo + 7)))]) (rest := []) (lenOf pd_4 rfl) rfl (by show 2 * 0 + _ ≤ _; exact Nat.le_of_eq rfl) (hb hby d3_82) (fun _ _ => ⟨rfl, hh83, (by decide : 0 + 0 ≤ _), (by decide : 0 + 0 ≤ _)⟩)
  dsimp only [Pt.U, Pt.locs, Pt.cells, Pt.slots] at X86 l86 y86 z86 st86 hQ86
  rw [l86, y86, z86] at X86
  obtain ⟨rfl, Nq86, hh86⟩ := hQ86
  have N87 := Fr.app N84 Nq86
  have X86 : Stand p l e ({ frames := 1, cells := 0, slots := 0, locals := 12 } : Room) s m _ below meth c T86 _ 0 0 := X86
  refine go _ (T86.setTop (mkF m 85 #[.val (.ref a1), .val (.int p1)] [(.int (f_rm4 (F (oo + 7))))])) (st86) ?_
  have hc88 : ¬ ((f_rm4 (F (oo + 7))) = (0 : Int32)) := own_okf (hb0 7 (by decide))
  refine go _ (T86.setTop (mkF m 88 #[.val (.ref a1), .val (.int p1)] [])) (fun t k => XS.ifNo X86.here hx rfl (hb hby d3_85) rfl ((if0 _ _).trans (feq hc88).1) k) ?_
  refine go _ (T86.setTop (mkF m 89 #[.val (.ref a1), .val (.int p1)] [(.ref a1)])) (fun t k => XS.aloadN X86.here hx rfl (hb hby d3_88) rfl rfl k) ?_
  refine go _ (T86.setTop (mkF m 90 #[.val (.ref a1), .val (.int p1)] [(.int p1), (.ref a1)])) (fun t k => XS.iloadN X86.here hx rfl (hb hby d3_89) rfl k) ?_
  refine go _ (T86.setTop (mkF m 92 #[.val (.ref a1), .val (.int p1)] [(.int (8 : Int32)), (.int p1), (.ref a1)])) (fun t k => XS.bipush X86.here hx rfl (hb hby d3_90) k) ?_
  refine go _ (T86.setTop (mkF m 93 #[.val (.ref a1), .val (.int p1)] [(.int (p1 + (8 : Int32))), (.ref a1)])) (fun t k => XS.iadd X86.here hx rfl (hb hby d3_92) rfl k) ?_
  refine go _ (T86.setTop (mkF m 94 #[.val (.ref a1), .val (.int p1)] [(.int (F (oo + 8)))])) (own_ldB X86 hx hZ hh86 A0 (i := (oo + 8)) hk8 (own_inb hi (k := 8) (by decide)) (g := (mkF m 93 #[.val (.ref a1), .val (.int p1)] [(.int (p1 + (8 : Int32))), (.ref a1)])) rfl rfl (hb hby d3_93) (v := (.int (F (oo + 8)))) rfl) ?_
  obtain ⟨_, _, ⟨T89, L89, k89, n89⟩, -, X89, ⟨Lc89, hQ89, l89, y89, z89⟩, st89⟩ := Jvm.LawKit.callS X86 hx (y := (⟨"com/example/withhold/withhold/crypto/Ed25519ScalarsDigitsPinLaw", "ok", "(I)Z"⟩ : MethodName)) hown (mvT hZ (hw _ (List.mem_of_getElem? (i := 13) rfl))) (mvT hZ (hw _ (List.mem_of_getElem? (i := 14) rfl))) (mvT hZ (hw _ (List.mem_of_getElem? (i := 4) rfl))) (mvT hZ (hw _ (List.mem_of_getElem? (i := 15) rfl))) (by decide) (backOf (W := 0) (rm4 l Z a0 hw [] (F (oo + 8))  h0 n0 Z0 ) hZ (hw _ (List.mem_of_getElem? (i := 15) rfl)) (hw _ (List.mem_of_getElem? (i := 4) rfl)) (by decide) (by decide)) (g := (mkF m 94 #[.val (.ref a1), .val (.int p1)] [(.int (F (oo + 8)))])) rfl (by rw [hml]; rfl) (argsL := [(.int (F (oo + 8)))]) (rest := []) (lenOf pd_4 rfl) rfl (by show 2 * 0 + _ ≤ _; exact Nat.le_of_eq rfl) (hb hby d3_94) (fun _ _ => ⟨rfl, hh86, (by decide : 0 + 0 ≤ _), (by decide : 0 + 0 ≤ _)⟩)
  dsimp only [Pt.U, Pt.locs, Pt.cells, Pt.slots] at X89 l89 y89 z89 st89 hQ89
  rw [l89, y89, z89] at X89
  obtain ⟨rfl, Nq89, hh89⟩ := hQ89
  have N90 := Fr.app N87 Nq89
  have X89 : Stand p l e ({ frames := 1, cells := 0, slots := 0, locals := 12 } : Room) s m _ below meth c T89 _ 0 0 := X89
  refine go _ (T89.setTop (mkF m 97 #[.val (.ref a1), .val (.int p1)] [(.int (f_rm4 (F (oo + 8))))])) (st89) ?_
  have hc91 : ¬ ((f_rm4 (F (oo + 8))) = (0 : Int32)) := own_okf (hb0 8 (by decide))
  refine go _ (T89.setTop (mkF m 100 #[.val (.ref a1), .val (.int p1)] [])) (fun t k => XS.ifNo X89.here hx rfl (hb hby d3_97) rfl ((if0 _ _).trans (feq hc91).1) k) ?_
  refine go _ (T89.setTop (mkF m 101 #[.val (.ref a1), .val (.int p1)] [(.ref a1)])) (fun t k => XS.aloadN X89.here hx rfl (hb hby d3_100) rfl rfl k) ?_
  refine go _ (T89.setTop (mkF m 102 #[.val (.ref a1), .val (.int p1)] [(.int p1), (.ref a1)])) (fun t k => XS.iloadN X89.here hx rfl (hb hby d3_101) rfl k) ?_
  refine go _ (T89.setTop (mkF m 104 #[.val (.ref a1), .val (.int p1)] [(.int (9 : Int32)), (.int p1), (.ref a1)])) (fun t k => XS.bipush X89.here hx rfl (hb hby d3_102) k) ?_
  refine go _ (T89.setTop (mkF m 105 #[.val (.ref a1), .val (.int p1)] [(.int (p1 + (9 : Int32))), (.ref a1)])) (fun t k => XS.iadd X89.here hx rfl (hb hby d3_104) rfl k) ?_
  refine go _ (T89.setTop (mkF m 106 #[.val (.ref a1), .val (.int p1)] [(.int (F (oo + 9)))])) (own_ldB X89 hx hZ hh89 A0 (i := (oo + 9)) hk9 (own_inb hi (k := 9) (by decide)) (g := (mkF m 105 #[.val (.ref a1), .val (.int p1)] [(.int (p1 + (9 : Int32))), (.ref a1)])) rfl rfl (hb hby d3_105) (v := (.int (F (oo + 9)))) rfl) ?_
  obtain ⟨_, _, ⟨T92, L92, k92, n92⟩, -, X92, ⟨Lc92, hQ92, l92, y92, z92⟩, st92⟩ := Jvm.LawKit.callS X89 hx (y := (⟨"com/example/withhold/withhold/crypto/Ed25519ScalarsDigitsPinLaw", "ok", "(I)Z"⟩ : MethodName)) hown (mvT hZ (hw _ (List.mem_of_getElem? (i := 13) rfl))) (mvT hZ (hw _ (List.mem_of_getElem? (i := 14) rfl))) (mvT hZ (hw _ (List.mem_of_getElem? (i := 4) rfl))) (mvT hZ (hw _ (List.mem_of_getElem? (i := 15) rfl))) (by decide) (backOf (W := 0) (rm4 l Z a0 hw [] (F (oo + 9))  h0 n0 Z0 ) hZ (hw _ (List.mem_of_getElem? (i := 15) rfl)) (hw _ (List.mem_of_getElem? (i := 4) rfl)) (by decide) (by decide)) (g := (mkF m 106 #[.val (.ref a1), .val (.int p1)] [(.int (F (oo + 9)))])) rfl (by rw [hml]; rfl) (argsL := [(.int (F (oo + 9)))]) (rest := []) (lenOf pd_4 rfl) rfl (by show 2 * 0 + _ ≤ _; exact Nat.le_of_eq rfl) (hb hby d3_106) (fun _ _ => ⟨rfl, hh89, (by decide : 0 + 0 ≤ _), (by decide : 0 + 0 ≤ _)⟩)
  dsimp only [Pt.U, Pt.locs, Pt.cells, Pt.slots] at X92 l92 y92 z92 st92 hQ92
  rw [l92, y92, z92] at X92
  obtain ⟨rfl, Nq92, hh92⟩ := hQ92
  have N93 := Fr.app N90 Nq92
  have X92 : Stand p l e ({ frames := 1, cells := 0, slots := 0, locals := 12 } : Room) s m _ below meth c T92 _ 0 0 := X92
  refine go _ (T92.setTop (mkF m 109 #[.val (.ref a1), .val (.int p1)] [(.int (f_rm4 (F (oo + 9))))])) (st92) ?_
  have hc94 : ¬ ((f_rm4 (F (oo + 9))) = (0 : Int32)) := own_okf (hb0 9 (by decide))
  refine go _ (T92.setTop (mkF m 112 #[.val (.ref a1), .val (.int p1)] [])) (fun t k => XS.ifNo X92.here hx rfl (hb hby d3_109) rfl ((if0 _ _).trans (feq hc94).1) k) ?_
  refine go _ (T92.setTop (mkF m 113 #[.val (.ref a1), .val (.int p1)] [(.ref a1)])) (fun t k => XS.aloadN X92.here hx rfl (hb hby d3_112) rfl rfl k) ?_
  refine go _ (T92.setTop (mkF m 114 #[.val (.ref a1), .val (.int p1)] [(.int p1), (.ref a1)])) (fun t k => XS.iloadN X92.here hx rfl (hb hby d3_113) rfl k) ?_
  refine go _ (T92.setTop (mkF m 116 #[.val (.ref a1), .val (.int p1)] [(.int (10 : Int32)), (.int p1), (.ref a1)])) (fun t k => XS.bipush X92.here hx rfl (hb hby d3_114) k) ?_
  refine go _ (T92.setTop (mkF m 117 #[.val (.ref a1), .val (.int p1)] [(.int (p1 + (10 : Int32))), (.ref a1)])) (fun t k => XS.iadd X92.here hx rfl (hb hby d3_116) rfl k) ?_
  refine go _ (T92.setTop (mkF m 118 #[.val (.ref a1), .val (.int p1)] [(.int (F (oo + 10)))])) (own_ldB X92 hx hZ hh92 A0 (i := (oo + 10)) hk10 (own_inb hi (k := 10) (by decide)) (g := (mkF m 117 #[.val (.ref a1), .val (.int p1)] [(.int (p1 + (10 : Int32))), (.ref a1)])) rfl rfl (hb hby d3_117) (v := (.int (F (oo + 10)))) rfl) ?_
  obtain ⟨_, _, ⟨T95, L95, k95, n95⟩, -, X95, ⟨Lc95, hQ95, l95, y95, z95⟩, st95⟩ := Jvm.LawKit.callS X92 hx (y := (⟨"com/example/withhold/withhold/crypto/Ed25519ScalarsDigitsPinLaw", "ok", "(I)Z"⟩ : MethodName)) hown (mvT hZ (hw _ (List.mem_of_getElem? (i := 13) rfl))) (mvT hZ (hw _ (List.mem_of_getElem? (i := 14) rfl))) (mvT hZ (hw _ (List.mem_of_getElem? (i := 4) rfl))) (mvT hZ (hw _ (List.mem_of_getElem? (i := 15) rfl))) (by decide) (backOf (W := 0) (rm4 l Z a0 hw [] (F (oo + 10))  h0 n0 Z0 ) hZ (hw _ (List.mem_of_getElem? (i := 15) rfl)) (hw _ (List.mem_of_getElem? (i := 4) rfl)) (by decide) (by decide)) (g := (mkF m 118 #[.val (.ref a1), .val (.int p1)] [(.int (F (oo + 10)))])) rfl (by rw [hml]; rfl) (argsL := [(.int (F (oo + 10)))]) (rest := []) (lenOf pd_4 rfl) rfl (by show 2 * 0 + _ ≤ _; exact Nat.le_of_eq rfl) (hb hby d3_118) (fun _ _ => ⟨rfl, hh92, (by decide : 0 + 0 ≤ _), (by decide : 0 + 0 ≤ _)⟩)
  dsimp only [Pt.U, Pt.locs, Pt.cells, Pt.slots] at X95 l95 y95 z95 st95 hQ95
  rw [l95, y95, z95] at X95
  obtain ⟨rfl, Nq95, hh95⟩ := hQ95
  have N96 := Fr.app N93 Nq95
  have X95 : Stand p l e ({ frames := 1, cells := 0, slots := 0, locals := 12 } : Room) s m _ below meth c T95 _ 0 0 := X95
  refine go _ (T95.setTop (mkF m 121 #[.val (.ref a1), .val (.int p1)] [(.int (f_rm4 (F (oo + 10))))])) (st95) ?_
  have hc97 : ¬ ((f_rm4 (F (oo + 10))) = (0 : Int32)) := own_okf (hb0 10 (by decide))
  refine go _ (T95.setTop (mkF m 124 #[.val (.ref a1), .val (.int p1)] [])) (fun t k => XS.ifNo X95.here hx rfl (hb hby d3_121) rfl ((if0 _ _).trans (feq hc97).1) k) ?_
  refine go _ (T95.setTop (mkF m 125 #[.val (.ref a1), .val (.int p1)] [(.ref a1)])) (fun t k => XS.aloadN X95.here hx rfl (hb hby d3_124) rfl rfl k) ?_
  refine go _ (T95.setTop (mkF m 126 #[.val (.ref a1), .val (.int p1)] [(.int p1), (.ref a1)])) (fun t k => XS.iloadN X95.here hx rfl (hb hby d3_125) rfl k) ?_
  refine go _ (T95.setTop (mkF m 128 #[.val (.ref a1), .val (.int p1)] [(.int (11 : Int32)), (.int p1), (.ref a1)])) (fun t k => XS.bipush X95.here hx rfl (hb hby d3_126) k) ?_
  refine go _ (T95.setTop (mkF m 129 #[.val (.ref a1), .val (.int p1)] [(.int (p1 + (11 : Int32))), (.ref a1)])) (fun t k => XS.iadd X95.here hx rfl (hb hby d3_128) rfl k) ?_
  refine go _ (T95.setTop (mkF m 130 #[.val (.ref a1), .val (.int p1)] [(.int (F (oo + 11)))])) (own_ldB X95 hx hZ hh95 A0 (i := (oo + 11)) hk11 (own_inb hi (k := 11) (by decide)) (g := (mkF m 129 #[.val (.ref a1), .val (.int p1)] [(.int (p1 + (11 : Int32))), (.ref a1)])) rfl rfl (hb hby d3_129) (v := (.int (F (oo + 11)))) rfl) ?_
  obtain ⟨_, _, ⟨T98, L98, k98, n98⟩, -, X98, ⟨Lc98, hQ98, l98, y98, z98⟩, st98⟩ := Jvm.LawKit.callS X95 hx (y := (⟨"com/example/withhold/withhold/crypto/Ed25519ScalarsDigitsPinLaw", "ok", "(I)Z"⟩ : MethodName)) hown (mvT hZ (hw _ (List.mem_of_getElem? (i := 13) rfl))) (mvT hZ (hw _ (List.mem_of_getElem? (i := 14) rfl))) (mvT hZ (hw _ (List.mem_of_getElem? (i := 4) rfl))) (mvT hZ (hw _ (List.mem_of_getElem? (i := 15) rfl))) (by decide) (backOf (W := 0) (rm4 l Z a0 hw [] (F (oo + 11))  h0 n0 Z0 ) hZ (hw _ (List.mem_of_getElem? (i := 15) rfl)) (hw _ (List.mem_of_getElem? (i := 4) rfl)) (by decide) (by decide)) (g := (mkF m 130 #[.val (.ref a1), .val (.int p1)] [(.int (F (oo + 11)))])) rfl (by rw [hml]; rfl) (argsL := [(.int (F (oo + 11)))]) (rest := []) (lenOf pd_4 rfl) rfl (by show 2 * 0 + _ ≤ _; exact Nat.le_of_eq rfl) (hb hby d3_130) (fun _ _ => ⟨rfl, hh95, (by decide : 0 + 0 ≤ _), (by decide : 0 + 0 ≤ _)⟩)
  dsimp only [Pt.U, Pt.locs, Pt.cells, Pt.slots] at X98 l98 y98 z98 st98 hQ98
  rw [l98, y98, z98] at X98
  obtain ⟨rfl, Nq98, hh98⟩ := hQ98
  have N99 := Fr.app N96 Nq98
  have X98 : Stand p l e ({ frames := 1, cells := 0, slots := 0, locals := 12 } : Room) s m _ below meth c T98 _ 0 0 := X98
  refine go _ (T98.setTop (mkF m 133 #[.val (.ref a1), .val (.int p1)] [(.int (f_rm4 (F (oo + 11))))])) (st98) ?_
  have hc100 : ¬ ((f_rm4 (F (oo + 11))) = (0 : Int32)) := own_okf (hb0 11 (by decide))
  refine go _ (T98.setTop (mkF m 136 #[.val (.ref a1), .val (.int p1)] [])) (fun t k => XS.ifNo X98.here hx rfl (hb hby d3_133) rfl ((if0 _ _).trans (feq hc100).1) k) ?_
  refine go _ (T98.setTop (mkF m 137 #[.val (.ref a1), .val (.int p1)] [(.ref a1)])) (fun t k => XS.aloadN X98.here hx rfl (hb hby d3_136) rfl rfl k) ?_
  refine go _ (T98.setTop (mkF m 138 #[.val (.ref a1), .val (.int p1)] [(.int p1), (.ref a1)])) (fun t k => XS.iloadN X98.here hx rfl (hb hby d3_137) rfl k) ?_
  refine go _ (T98.setTop (mkF m 140 #[.val (.ref a1), .val (.int p1)] [(.int (12 : Int32)), (.int p1), (.ref a1)])) (fun t k => XS.bipush X98.here hx rfl (hb hby d3_138) k) ?_
  refine go _ (T98.setTop (mkF m 141 #[.val (.ref a1), .val (.int p1)] [(.int (p1 + (12 : Int32))), (.ref a1)])) (fun t k => XS.iadd X98.here hx rfl (hb hby d3_140) rfl k) ?_
  refine go _ (T98.setTop (mkF m 142 #[.val (.ref a1), .val (.int p1)] [(.int (F (oo + 12)))])) (own_ldB X98 hx hZ hh98 A0 (i := (oo + 12)) hk12 (own_inb hi (k := 12) (by decide)) (g := (mkF m 141 #[.val (.ref a1), .val (.int p1)] [(.int (p1 + (12 : Int32))), (.ref a1)])) rfl rfl (hb hby d3_141) (v := (.int (F (oo + 12)))) rfl) ?_
  obtain ⟨_, _, ⟨T101, L101, k101, n101⟩, -, X101, ⟨Lc101, hQ101, l101, y101, z101⟩, st101⟩ := Jvm.LawKit.callS X98 hx (y := (⟨"com/example/withhold/withhold/crypto/Ed25519ScalarsDigitsPinLaw", "ok", "(I)Z"⟩ : MethodName)) hown (mvT hZ (hw _ (List.mem_of_getElem? (i := 13) rfl))) (mvT hZ (hw _ (List.mem_of_getElem? (i := 14) rfl))) (mvT hZ (hw _ (List.mem_of_getElem? (i := 4) rfl))) (mvT hZ (hw _ (List.mem_of_getElem? (i := 15) rfl))) (by decide) (backOf (W := 0) (rm4 l Z a0 hw [] (F (oo + 12))  h0 n0 Z0 ) hZ (hw _ (List.mem_of_getElem? (i := 15) rfl)) (hw _ (List.mem_of_getElem? (i := 4) rfl)) (by decide) (by decide)) (g := (mkF m 142 #[.val (.ref a1), .val (.int p1)] [(.int (F (oo + 12)))])) rfl (by rw [hml]; rfl) (argsL := [(.int (F (oo + 12)))]) (rest := []) (lenOf pd_4 rfl) rfl (by show 2 * 0 + _ ≤ _; exact Nat.le_of_eq rfl) (hb hby d3_142) (fun _ _ => ⟨rfl, hh98, (by decide : 0 + 0 ≤ _), (by decide : 0 + 0 ≤ _)⟩)
  dsimp only [Pt.U, Pt.locs, Pt.cells, Pt.slots] at X101 l101 y101 z101 st101 hQ101
  rw [l101, y101, z101] at X101
  obtain ⟨rfl, Nq101, hh101⟩ := hQ101
  have N102 := Fr.app N99 Nq101
  have X101 : Stand p l e ({ frames := 1, cells := 0, slots := 0, locals := 12 } : Room) s m _ below meth c T101 _ 0 0 := X101
  refine go _ (T101.setTop (mkF m 145 #[.val (.ref a1), .val (.int p1)] [(.int (f_rm4 (F (oo + 12))))])) (st101) ?_
  have hc103 : ¬ ((f_rm4 (F (oo + 12))) = (0 : Int32)) := own_okf (hb0 12 (by decide))
  refine go _ (T101.setTop (mkF m 148 #[.val (.ref a1), .val (.int p1)] [])) (fun t k => XS.ifNo X101.here hx rfl (hb hby d3_145) rfl ((if0 _ _).trans (feq hc103).1) k) ?_
  refine go _ (T101.setTop (mkF m 149 #[.val (.ref a1), .val (.int p1)] [(.ref a1)])) (fun t k => XS.aloadN X101.here hx rfl (hb hby d3_148) rfl rfl k) ?_
  refine go _ (T101.setTop (mkF m 150 #[.val (.ref a1), .val (.int p1)] [(.int p1), (.ref a1)])) (fun t k => XS.iloadN X101.here hx rfl (hb hby d3_149) rfl k) ?_
  refine go _ (T101.setTop (mkF m 152 #[.val (.ref a1), .val (.int p1)] [(.int (13 : Int32)), (.int p1), (.ref a1)])) (fun t k => XS.bipush X101.here hx rfl (hb hby d3_150) k) ?_
  refine go _ (T101.setTop (mkF m 153 #[.val (.ref a1), .val (.int p1)] [(.int (p1 + (13 : Int32))), (.ref a1)])) (fun t k => XS.iadd X101.here hx rfl (hb hby d3_152) rfl k) ?_
  refine go _ (T101.setTop (mkF m 154 #[.val (.ref a1), .val (.int p1)] [(.int (F (oo + 13)))])) (own_ldB X101 hx hZ hh101 A0 (i := (oo + 13)) hk13 (own_inb hi (k := 13) (by decide)) (g := (mkF m 153 #[.val (.ref a1), .val (.int p1)] [(.int (p1 + (13 : Int32))), (.ref a1)])) rfl rfl (hb hby d3_153) (v := (.int (F (oo + 13)))) rfl) ?_
  obtain ⟨_, _, ⟨T104, L104, k104, n104⟩, -, X104, ⟨Lc104, hQ104, l104, y104, z104⟩, st104⟩ := Jvm.LawKit.callS X101 hx (y := (⟨"com/example/withhold/withhold/crypto/Ed25519ScalarsDigitsPinLaw", "ok", "(I)Z"⟩ : MethodName)) hown (mvT hZ (hw _ (List.mem_of_getElem? (i := 13) rfl))) (mvT hZ (hw _ (List.mem_of_getElem? (i := 14) rfl))) (mvT hZ (hw _ (List.mem_of_getElem? (i := 4) rfl))) (mvT hZ (hw _ (List.mem_of_getElem? (i := 15) rfl))) (by decide) (backOf (W := 0) (rm4 l Z a0 hw [] (F (oo + 13))  h0 n0 Z0 ) hZ (hw _ (List.mem_of_getElem? (i := 15) rfl)) (hw _ (List.mem_of_getElem? (i := 4) rfl)) (by decide) (by decide)) (g := (mkF m 154 #[.val (.ref a1), .val (.int p1)] [(.int (F (oo + 13)))])) rfl (by rw [hml]; rfl) (argsL := [(.int (F (oo + 13)))]) (rest := []) (lenOf pd_4 rfl) rfl (by show 2 * 0 + _ ≤ _; exact Nat.le_of_eq rfl) (hb hby d3_154) (fun _ _ => ⟨rfl, hh101, (by decide : 0 + 0 ≤ _), (by decide : 0 + 0 ≤ _)⟩)
  dsimp only [Pt.U, Pt.locs, Pt.cells, Pt.slots] at X104 l104 y104 z104 st104 hQ104
  rw [l104, y104, z104] at X104
  obtain ⟨rfl, Nq104, hh104⟩ := hQ104
  have N105 := Fr.app N102 Nq104
  have X104 : Stand p l e ({ frames := 1, cells := 0, slots := 0, locals := 12 } : Room) s m _ below meth c T104 _ 0 0 := X104
  refine go _ (T104.setTop (mkF m 157 #[.val (.ref a1), .val (.int p1)] [(.int (f_rm4 (F (oo + 13))))])) (st104) ?_
  have hc106 : ¬ ((f_rm4 (F (oo + 13))) = (0 : Int32)) := own_okf (hb0 13 (by decide))
  refine go _ (T104.setTop (mkF m 160 #[.val (.ref a1), .val (.int p1)] [])) (fun t k => XS.ifNo X104.here hx rfl (hb hby d3_157) rfl ((if0 _ _).trans (feq hc106).1) k) ?_
  refine go _ (T104.setTop (mkF m 161 #[.val (.ref a1), .val (.int p1)] [(.ref a1)])) (fun t k => XS.aloadN X104.here hx rfl (hb hby d3_160) rfl rfl k) ?_
  refine go _ (T104.setTop (mkF m 162 #[.val (.ref a1), .val (.int p1)] [(.int p1), (.ref a1)])) (fun t k => XS.iloadN X104.here hx rfl (hb hby d3_161) rfl k) ?_
  refine go _ (T104.setTop (mkF m 164 #[.val (.ref a1), .val (.int p1)] [(.int (14 : Int32)), (.int p1), (.ref a1)])) (fun t k => XS.bipush X104.here hx rfl (hb hby d3_162) k) ?_
  refine go _ (T104.setTop (mkF m 165 #[.val (.ref a1), .val (.int p1)] [(.int (p1 + (14 : Int32))), (.ref a1)])) (fun t k => XS.iadd X104.here hx rfl (hb hby d3_164) rfl k) ?_
  refine go _ (T104.setTop (mkF m 166 #[.val (.ref a1), .val (.int p1)] [(.int (F (oo + 14)))])) (own_ldB X104 hx hZ hh104 A0 (i := (oo + 14)) hk14 (own_inb hi (k := 14) (by decide)) (g := (mkF m 165 #[.val (.ref a1), .val (.int p1)] [(.int (p1 + (14 : Int32))), (.ref a1)])) rfl rfl (hb hby d3_165) (v := (.int (F (oo + 14)))) rfl) ?_
  obtain ⟨_, _, ⟨T107, L107, k107, n107⟩, -, X107, ⟨Lc107, hQ107, l107, y107, z107⟩, st107⟩ := Jvm.LawKit.callS X104 hx (y := (⟨"com/example/withhold/withhold/crypto/Ed25519ScalarsDigitsPinLaw", "ok", "(I)Z"⟩ : MethodName)) hown (mvT hZ (hw _ (List.mem_of_getElem? (i := 13) rfl))) (mvT hZ (hw _ (List.mem_of_getElem? (i := 14) rfl))) (mvT hZ (hw _ (List.mem_of_getElem? (i := 4) rfl))) (mvT hZ (hw _ (List.mem_of_getElem? (i := 15) rfl))) (by decide) (backOf (W := 0) (rm4 l Z a0 hw [] (F (oo + 14))  h0 n0 Z0 ) hZ (hw _ (List.mem_of_getElem? (i := 15) rfl)) (hw _ (List.mem_of_getElem? (i := 4) rfl)) (by decide) (by decide)) (g := (mkF m 166 #[.val (.ref a1), .val (.int p1)] [(.int (F (oo + 14)))])) rfl (by rw [hml]; rfl) (argsL := [(.int (F (oo + 14)))]) (rest := []) (lenOf pd_4 rfl) rfl (by show 2 * 0 + _ ≤ _; exact Nat.le_of_eq rfl) (hb hby d3_166) (fun _ _ => ⟨rfl, hh104, (by decide : 0 + 0 ≤ _), (by decide : 0 + 0 ≤ _)⟩)
  dsimp only [Pt.U, Pt.locs, Pt.cells, Pt.slots] at X107 l107 y107 z107 st107 hQ107
  rw [l107, y107, z107] at X107
  obtain ⟨rfl, Nq107, hh107⟩ := hQ107
  have N108 := Fr.app N105 Nq107
  have X107 : Stand p l e ({ frames := 1, cells := 0, slots := 0, locals := 12 } : Room) s m _ below meth c T107 _ 0 0 := X107
  refine go _ (T107.setTop (mkF m 169 #[.val (.ref a1), .val (.int p1)] [(.int (f_rm4 (F (oo + 14))))])) (st107) ?_
  have hc109 : ¬ ((f_rm4 (F (oo + 14))) = (0 : Int32)) := own_okf (hb0 14 (by decide))
  refine go _ (T107.setTop (mkF m 172 #[.val (.ref a1), .val (.int p1)] [])) (fun t k => XS.ifNo X107.here hx rfl (hb hby d3_169) rfl ((if0 _ _).trans (feq hc109).1) k) ?_
  refine go _ (T107.setTop (mkF m 173 #[.val (.ref a1), .val (.int p1)] [(.ref a1)])) (fun t k => XS.aloadN X107.here hx rfl (hb hby d3_172) rfl rfl k) ?_
  refine go _ (T107.setTop (mkF m 174 #[.val (.ref a1), .val (.int p1)] [(.int p1), (.ref a1)])) (fun t k => XS.iloadN X107.here hx rfl (hb hby d3_173) rfl k) ?_
  refine go _ (T107.setTop (mkF m 176 #[.val (.ref a1), .val (.int p1)] [(.int (15 : Int32)), (.int p1), (.ref a1)])) (fun t k => XS.bipush X107.here hx rfl (hb hby d3_174) k) ?_
  refine go _ (T107.setTop (mkF m 177 #[.val (.ref a1), .val (.int p1)] [(.int (p1 + (15 : Int32))), (.ref a1)])) (fun t k => XS.iadd X107.here hx rfl (hb hby d3_176) rfl k) ?_
  refine go _ (T107.setTop (mkF m 178 #[.val (.ref a1), .val (.int p1)] [(.int (F (oo + 15)))])) (own_ldB X107 hx hZ hh107 A0 (i := (oo + 15)) hk15 (own_inb hi (k := 15) (by decide)) (g := (mkF m 177 #[.val (.ref a1), .val (.int p1)] [(.int (p1 + (15 : Int32))), (.ref a1)])) rfl rfl (hb hby d3_177) (v := (.int (F (oo + 15)))) rfl) ?_
  obtain ⟨_, _, ⟨T110, L110, k110, n110⟩, -, X110, ⟨Lc110, hQ110, l110, y110, z110⟩, st110⟩ := Jvm.LawKit.callS X107 hx (y := (⟨"com/example/withhold/withhold/crypto/Ed25519ScalarsDigitsPinLaw", "ok", "(I)Z"⟩ : MethodName)) hown (mvT hZ (hw _ (List.mem_of_getElem? (i := 13) rfl))) (mvT hZ (hw _ (List.mem_of_getElem? (i := 14) rfl))) (mvT hZ (hw _ (List.mem_of_getElem? (i := 4) rfl))) (mvT hZ (hw _ (List.mem_of_getElem? (i := 15) rfl))) (by decide) (backOf (W := 0) (rm4 l Z a0 hw [] (F (oo + 15))  h0 n0 Z0 ) hZ (hw _ (List.mem_of_getElem? (i := 15) rfl)) (hw _ (List.mem_of_getElem? (i := 4) rfl)) (by decide) (by decide)) (g := (mkF m 178 #[.val (.ref a1), .val (.int p1)] [(.int (F (oo + 15)))])) rfl (by rw [hml]; rfl) (argsL := [(.int (F (oo + 15)))]) (rest := []) (lenOf pd_4 rfl) rfl (by show 2 * 0 + _ ≤ _; exact Nat.le_of_eq rfl) (hb hby d3_178) (fun _ _ => ⟨rfl, hh107, (by decide : 0 + 0 ≤ _), (by decide : 0 + 0 ≤ _)⟩)
  dsimp only [Pt.U, Pt.locs, Pt.cells, Pt.slots] at X110 l110 y110 z110 st110 hQ110
  rw [l110, y110, z110] at X110
  obtain ⟨rfl, Nq110, hh110⟩ := hQ110
  have N111 := Fr.app N108 Nq110
  have X110 : Stand p l e ({ frames := 1, cells := 0, slots := 0, locals := 12 } : Room) s m _ below meth c T110 _ 0 0 := X110
  refine go _ (T110.setTop (mkF m 181 #[.val (.ref a1), .val (.int p1)] [(.int (f_rm4 (F (oo + 15))))])) (st110) ?_
  have hc112 : ¬ ((f_rm4 (F (oo + 15))) = (0 : Int32)) := own_okf (hb0 15 (by decide))
  refine go _ (T110.setTop (mkF m 184 #[.val (.ref a1), .val (.int p1)] [])) (fun t k => XS.ifNo X110.here hx rfl (hb hby d3_181) rfl ((if0 _ _).trans (feq hc112).1) k) ?_
  refine go _ (T110.setTop (mkF m 185 #[.val (.ref a1), .val (.int p1)] [(.int (1 : Int32))])) (fun t k => XS.iconst X110.here hx rfl (hb hby d3_184) k) ?_
  refine go _ (T110.setTop (mkF m 189 #[.val (.ref a1), .val (.int p1)] [(.int (1 : Int32))])) (fun t k => XS.goto X110.here hx rfl (pc0 := 185) (pc' := 189) rfl (hb hby d3_185) (by decide) (by decide) k) ?_
  exact fin (some (.int (1 : Int32))) X110 (by decide) (by decide) (fun q => by cases q) (show Q_rm3 Z a1 p1 F oo h0 n0 _ T110.heap _ from (by rw [hh110]; exact ⟨rfl, N111, rfl⟩)) (fun fs hr => retN X110 hx (t := .boolean) hret (by simp) (hb hby d3_189) hr)
theorem d5_0 : decode method_4_code 0 = .ok (.lload_n 2, 1) := by decide +kernel
theorem d5_1 : decode method_4_code 1 = .ok (.lconst 0, 1) := by decide +kernel
theorem d5_2 : decode method_4_code 2 = .ok (.lcmp, 1) := by decide +kernel
theorem d5_3 : decode method_4_code 3 = .ok (.ifCond .eq 13, 3) := by decide +kernel
theorem d5_6 : decode method_4_code 6 = .ok (.lload_n 0, 1) := by decide +kernel
theorem d5_7 : decode method_4_code 7 = .ok (.ldc2_w 33, 3) := by decide +kernel
theorem d5_10 : decode method_4_code 10 = .ok (.lcmp, 1) := by decide +kernel
theorem d5_11 : decode method_4_code 11 = .ok (.ifCond .ne 5, 3) := by decide +kernel
theorem d5_14 : decode method_4_code 14 = .ok (.lconst 1, 1) := by decide +kernel
theorem d5_15 : decode method_4_code 15 = .ok (.lreturn, 1) := by decide +kernel
theorem d5_16 : decode method_4_code 16 = .ok (.lload_n 0, 1) := by decide +kernel
theorem d5_17 : decode method_4_code 17 = .ok (.lload_n 2, 1) := by decide +kernel
theorem d5_18 : decode method_4_code 18 = .ok (.ladd, 1) := by decide +kernel
theorem d5_19 : decode method_4_code 19 = .ok (.lstore 4, 2) := by decide +kernel
theorem d5_21 : decode method_4_code 21 = .ok (.ldc2_w 35, 3) := by decide +kernel
theorem d5_24 : decode method_4_code 24 = .ok (.lstore 6, 2) := by decide +kernel
theorem d5_26 : decode method_4_code 26 = .ok (.lload 4, 2) := by decide +kernel
theorem d5_28 : decode method_4_code 28 = .ok (.lload 6, 2) := by decide +kernel
theorem d5_30 : decode method_4_code 30 = .ok (.lxor, 1) := by decide +kernel
theorem d5_31 : decode method_4_code 31 = .ok (.ldc2_w 37, 3) := by decide +kernel
theorem d5_34 : decode method_4_code 34 = .ok (.lload 6, 2) := by decide +kernel
theorem d5_36 : decode method_4_code 36 = .ok (.lxor, 1) := by decide +kernel
theorem d5_37 : decode method_4_code 37 = .ok (.lcmp, 1) := by decide +kernel
theorem d5_38 : decode method_4_code 38 = .ok (.ifCond .lt 7, 3) := by decide +kernel
theorem d5_41 : decode method_4_code 41 = .ok (.lconst 1, 1) := by decide +kernel
theorem d5_42 : decode method_4_code 42 = .ok (.goto 4, 3) := by decide +kernel
theorem d5_45 : decode method_4_code 45 = .ok (.lconst 0, 1) := by decide +kernel
theorem d5_46 : decode method_4_code 46 = .ok (.lreturn, 1) := by decide +kernel
theorem ef_rm5 (m : MethodId) (q1 : Int64) (q2 : Int64) : entryFrame m #[(.long q1), (.long q2)] 8 = mkF m 0 #[.val (.long q1), .second, .val (.long q2), .second, .unset, .unset, .unset, .unset] [] := by first | (simp [entryFrame, mkF, argsToLocals, Value.category]; done) | rfl
def f_rm5 (q1 : Int64) (q2 : Int64) : Int64 := (if q2 = (0 : Int64) then (if ((q1 + q2) ^^^ (-9223372036854775808 : Int64)) < ((8608480567731124088 : Int64) ^^^ (-9223372036854775808 : Int64)) then (0 : Int64) else (1 : Int64)) else (if q1 = (-1 : Int64) then (1 : Int64) else (if ((q1 + q2) ^^^ (-9223372036854775808 : Int64)) < ((8608480567731124088 : Int64) ^^^ (-9223372036854775808 : Int64)) then (0 : Int64) else (1 : Int64))))
def Q_rm5 (Z : State) (q1 : Int64) (q2 : Int64) (h0 : Heap) (n0 : Nat) (v : Option Value) (h : Heap) (L : List Loc) : Prop := v = some (.long (f_rm5 q1 q2)) ∧ Fr n0 L ∧ h = h0
set_option maxRecDepth 65536 in
set_option maxHeartbeats 40000000 in
theorem rm5 (l : Launch) (Z : State) (a0 : Array Value) (hw : ∀ d ∈ tables_1, d.before a0 Z = true) (ws : List Jvm.Cond) (q1 : Int64) (q2 : Int64) (h0 : Heap) (n0 : Nat) (Z0 : n0 ≤ h0.size)  :
    MetFree l (⟨"com/example/withhold/withhold/crypto/Ed25519ScalarsDigitsPinLaw", "carry", "(JJ)J"⟩ : MethodName) (head1 (Jvm.Cond.code (⟨"com/example/withhold/withhold/crypto/Ed25519ScalarsDigitsPinLaw", "carry", "(JJ)J"⟩ : MethodName) method_4_code 8 (some .long) :: ws) ({ frames := 0, cells := 0, slots := 0, locals := 0 } : Room)) (fun a U => a = #[(.long q1), (.long q2)] ∧ Z.Warmed39 U.vm ∧ U.heap = h0) (fun _ _ _ _ _ => True) (fun _ U o U' => ∃ v L, o = .returned v ∧ Q_rm5 Z q1 q2 h0 n0 v U'.heap L ∧ FrameEnd U o U' L ({ frames := 0, cells := 0, slots := 0, locals := 0 } : Room).cells ({ frames := 0, cells := 0, slots := 0, locals := 0 } : Room).slots) := by
  refine own_body (Q := Q_rm5 Z q1 q2 h0 n0) (plainFor_of_name pn_8) ?_
  intro p e s m below meth c s₁ K go fin X0 hx hby hml hown hnm hret hZ e0
  have hown : s.vm.findClass "com/example/withhold/withhold/crypto/Ed25519ScalarsDigitsPinLaw" = some m.cls := hown
  have N0 := Fr.nil n0
  refine go _ (s₁.setTop (mkF m 0 #[.val (.long q1), .second, .val (.long q2), .second, .unset, .unset, .unset, .unset] [])) (fun t k => castTop (ef_rm5 m q1 q2) k) ?_
  refine go _ (s₁.setTop (mkF m 1 #[.val (.long q1), .second, .val (.long q2), .second, .unset, .unset, .unset, .unset] [(.long q2)])) (fun t k => XS.lloadN X0.here hx rfl (hb hby d5_0) rfl k) ?_
  refine go _ (s₁.setTop (mkF m 2 #[.val (.long q1), .second, .val (.long q2), .second, .unset, .unset, .unset, .unset] [(.long (0 : Int64)), (.long q2)])) (fun t k => XS.lconst X0.here hx rfl (hb hby d5_1) k) ?_
  refine go _ (s₁.setTop (mkF m 3 #[.val (.long q1), .second, .val (.long q2), .second, .unset, .unset, .unset, .unset] [(.int (lcmpW q2 (0 : Int64)))])) (fun t k => XS.lcmp X0.here hx rfl (hb hby d5_2) rfl k) ?_
  by_cases hc113 : q2 = (0 : Int64)
  · refine go _ (s₁.setTop (mkF m 16 #[.val (.long q1), .second, .val (.long q2), .second, .unset, .unset, .unset, .unset] [])) (fun t k => XS.ifYes X0.here hx rfl (pc0 := 3) (pc' := 16) rfl (hb hby d5_3) rfl ((if0 _ _).trans (teq ((lw_eq q2 (0 : Int64)).mpr hc113)).1) (by decide) (by decide) k) ?_
    refine go _ (s₁.setTop (mkF m 17 #[.val (.long q1), .second, .val (.long q2), .second, .unset, .unset, .unset, .unset] [(.long q1)])) (fun t k => XS.lloadN X0.here hx rfl (hb hby d5_16) rfl k) ?_
    refine go _ (s₁.setTop (mkF m 18 #[.val (.long q1), .second, .val (.long q2), .second, .unset, .unset, .unset, .unset] [(.long q2), (.long q1)])) (fun t k => XS.lloadN X0.here hx rfl (hb hby d5_17) rfl k) ?_
    refine go _ (s₁.setTop (mkF m 19 #[.val (.long q1), .second, .val (.long q2), .second, .unset, .unset, .unset, .unset] [(.long (q1 + q2))])) (fun t k => XS.ladd X0.here hx rfl (hb hby d5_18) rfl k) ?_
    refine go _ (s₁.setTop (mkF m 21 #[.val (.long q1), .second, .val (.long q2), .second, .val (.long (q1 + q2)), .second, .unset, .unset] [])) (fun t k => XS.lstore X0.here hx rfl (hb hby d5_19) rfl (l' := #[.val (.long q1), .second, .val (.long q2), .second, .val (.long (q1 + q2)), .second, .unset, .unset]) rfl k) ?_
    refine go _ (s₁.setTop (mkF m 24 #[.val (.long q1), .second, .val (.long q2), .second, .val (.long (q1 + q2)), .second, .unset, .unset] [(.long (-9223372036854775808 : Int64))])) (X0.ldc2Long hx hown (mvT hZ (hw _ (List.mem_of_getElem? (i := 19) rfl))) (g := (mkF m 21 #[.val (.long q1), .second, .val (.long q2), .second, .val (.long (q1 + q2)), .second, .unset, .unset] [])) rfl (hb hby d5_21)) ?_
    refine go _ (s₁.setTop (mkF m 26 #[.val (.long q1), .second, .val (.long q2), .second, .val (.long (q1 + q2)), .second, .val (.long (-9223372036854775808 : Int64)), .second] [])) (fun t k => XS.lstore X0.here hx rfl (hb hby d5_24) rfl (l' := #[.val (.long q1), .second, .val (.long q2), .second, .val (.long (q1 + q2)), .second, .val (.long (-9223372036854775808 : Int64)), .second]) rfl k) ?_
    refine go _ (s₁.setTop (mkF m 28 #[.val (.long q1), .second, .val (.long q2), .second, .val (.long (q1 + q2)), .second, .val (.long (-9223372036854775808 : Int64)), .second] [(.long (q1 + q2))])) (fun t k => XS.lload X0.here hx rfl (hb hby d5_26) rfl k) ?_
    refine go _ (s₁.setTop (mkF m 30 #[.val (.long q1), .second, .val (.long q2), .second, .val (.long (q1 + q2)), .second, .val (.long (-9223372036854775808 : Int64)), .second] [(.long (-9223372036854775808 : Int64)), (.long (q1 + q2))])) (fun t k => XS.lload X0.here hx rfl (hb hby d5_28) rfl k) ?_
    refine go _ (s₁.setTop (mkF m 31 #[.val (.long q1), .second, .val (.long q2), .second, .val (.long (q1 + q2)), .second, .val (.long (-9223372036854775808 : Int64)), .second] [(.long ((q1 + q2) ^^^ (-9223372036854775808 : Int64)))])) (fun t k => XS.lxor X0.here hx rfl (hb hby d5_30) rfl k) ?_
    refine go _ (s₁.setTop (mkF m 34 #[.val (.long q1), .second, .val (.long q2), .second, .val (.long (q1 + q2)), .second, .val (.long (-9223372036854775808 : Int64)), .second] [(.long (8608480567731124088 : Int64)), (.long ((q1 + q2) ^^^ (-9223372036854775808 : Int64)))])) (X0.ldc2Long hx hown (mvT hZ (hw _ (List.mem_of_getElem? (i := 20) rfl))) (g := (mkF m 31 #[.val (.long q1), .second, .val (.long q2), .second, .val (.long (q1 + q2)), .second, .val (.long (-9223372036854775808 : Int64)), .second] [(.long ((q1 + q2) ^^^ (-9223372036854775808 : Int64)))])) rfl (hb hby d5_31)) ?_
    refine go _ (s₁.setTop (mkF m 36 #[.val (.long q1), .second, .val (.long q2), .second, .val (.long (q1 + q2)), .second, .val (.long (-9223372036854775808 : Int64)), .second] [(.long (-9223372036854775808 : Int64)), (.long (8608480567731124088 : Int64)), (.long ((q1 + q2) ^^^ (-9223372036854775808 : Int64)))])) (fun t k => XS.lload X0.here hx rfl (hb hby d5_34) rfl k) ?_
    refine go _ (s₁.setTop (mkF m 37 #[.val (.long q1), .second, .val (.long q2), .second, .val (.long (q1 + q2)), .second, .val (.long (-9223372036854775808 : Int64)), .second] [(.long ((8608480567731124088 : Int64) ^^^ (-9223372036854775808 : Int64))), (.long ((q1 + q2) ^^^ (-9223372036854775808 : Int64)))])) (fun t k => XS.lxor X0.here hx rfl (hb hby d5_36) rfl k) ?_
    refine go _ (s₁.setTop (mkF m 38 #[.val (.long q1), .second, .val (.long q2), .second, .val (.long (q1 + q2)), .second, .val (.long (-9223372036854775808 : Int64)), .second] [(.int (lcmpW ((q1 + q2) ^^^ (-9223372036854775808 : Int64)) ((8608480567731124088 : Int64) ^^^ (-9223372036854775808 : Int64))))])) (fun t k => XS.lcmp X0.here hx rfl (hb hby d5_37) rfl k) ?_
    by_cases hc114 : ((q1 + q2) ^^^ (-9223372036854775808 : Int64)) < ((8608480567731124088 : Int64) ^^^ (-9223372036854775808 : Int64))
    · refine go _ (s₁.setTop (mkF m 45 #[.val (.long q1), .second, .val (.long q2), .second, .val (.long (q1 + q2)), .second, .val (.long (-9223372036854775808 : Int64)), .second] [])) (fun t k => XS.ifYes X0.here hx rfl (pc0 := 38) (pc' := 45) rfl (hb hby d5_38) rfl ((if0 _ _).trans (tlt ((lw_lt ((q1 + q2) ^^^ (-9223372036854775808 : Int64)) ((8608480567731124088 : Int64) ^^^ (-9223372036854775808 : Int64))).mpr hc114)).1) (by decide) (by decide) k) ?_
      refine go _ (s₁.setTop (mkF m 46 #[.val (.long q1), .second, .val (.long q2), .second, .val (.long (q1 + q2)), .second, .val (.long (-9223372036854775808 : Int64)), .second] [(.long (0 : Int64))])) (fun t k => XS.lconst X0.here hx rfl (hb hby d5_45) k) ?_
      exact fin (some (.long (0 : Int64))) X0 (by decide) (by decide) (fun q => by cases q) (show Q_rm5 Z q1 q2 h0 n0 _ s₁.heap _ from (by rw [e0]; exact ⟨congrArg some (congrArg Value.long (show (f_rm5 q1 q2) = (0 : Int64) from (by unfold f_rm5; rw [if_pos hc113, if_pos hc114])).symm), N0, rfl⟩)) (fun fs hr => retJ X0 hx hret (hb hby d5_46) hr)
    · refine go _ (s₁.setTop (mkF m 41 #[.val (.long q1), .second, .val (.long q2), .second, .val (.long (q1 + q2)), .second, .val (.long (-9223372036854775808 : Int64)), .second] [])) (fun t k => XS.ifNo X0.here hx rfl (hb hby d5_38) rfl ((if0 _ _).trans (flt (fun q => hc114 ((lw_lt ((q1 + q2) ^^^ (-9223372036854775808 : Int64)) ((8608480567731124088 : Int64) ^^^ (-9223372036854775808 : Int64))).mp q))).1) k) ?_
      refine go _ (s₁.setTop (mkF m 42 #[.val (.long q1), .second, .val (.long q2), .second, .val (.long (q1 + q2)), .second, .val (.long (-9223372036854775808 : Int64)), .second] [(.long (1 : Int64))])) (fun t k => XS.lconst X0.here hx rfl (hb hby d5_41) k) ?_
      refine go _ (s₁.setTop (mkF m 46 #[.val (.long q1), .second, .val (.long q2), .second, .val (.long (q1 + q2)), .second, .val (.long (-9223372036854775808 : Int64)), .second] [(.long (1 : Int64))])) (fun t k => XS.goto X0.here hx rfl (pc0 := 42) (pc' := 46) rfl (hb hby d5_42) (by decide) (by decide) k) ?_
      exact fin (some (.long (1 : Int64))) X0 (by decide) (by decide) (fun q => by cases q) (show Q_rm5 Z q1 q2 h0 n0 _ s₁.heap _ from (by rw [e0]; exact ⟨congrArg some (congrArg Value.long (show (f_rm5 q1 q2) = (1 : Int64) from (by unfold f_rm5; rw [if_pos hc113, if_neg hc114])).symm), N0, rfl⟩)) (fun fs hr => retJ X0 hx hret (hb hby d5_46) hr)
  · refine go _ (s₁.setTop (mkF m 6 #[.val (.long q1), .second, .val (.long q2), .second, .unset, .unset, .unset, .unset] [])) (fun t k => XS.ifNo X0.here hx rfl (hb hby d5_3) rfl ((if0 _ _).trans (feq (fun q => hc113 ((lw_eq q2 (0 : Int64)).mp q))).1) k) ?_
    refine go _ (s₁.setTop (mkF m 7 #[.val (.long q1), .second, .val (.long q2), .second, .unset, .unset, .unset, .unset] [(.long q1)])) (fun t k => XS.lloadN X0.here hx rfl (hb hby d5_6) rfl k) ?_
    refine go _ (s₁.setTop (mkF m 10 #[.val (.long q1), .second, .val (.long q2), .second, .unset, .unset, .unset, .unset] [(.long (-1 : Int64)), (.long q1)])) (X0.ldc2Long hx hown (mvT hZ (hw _ (List.mem_of_getElem? (i := 21) rfl))) (g := (mkF m 7 #[.val (.long q1), .second, .val (.long q2), .second, .unset, .unset, .unset, .unset] [(.long q1)])) rfl (hb hby d5_7)) ?_
    refine go _ (s₁.setTop (mkF m 11 #[.val (.long q1), .second, .val (.long q2), .second, .unset, .unset, .unset, .unset] [(.int (lcmpW q1 (-1 : Int64)))])) (fun t k => XS.lcmp X0.here hx rfl (hb hby d5_10) rfl k) ?_
    by_cases hc115 : q1 = (-1 : Int64)
    · refine go _ (s₁.setTop (mkF m 14 #[.val (.long q1), .second, .val (.long q2), .second, .unset, .unset, .unset, .unset] [])) (fun t k => XS.ifNo X0.here hx rfl (hb hby d5_11) rfl ((if0 _ _).trans (teq ((lw_eq q1 (-1 : Int64)).mpr hc115)).2) k) ?_
      refine go _ (s₁.setTop (mkF m 15 #[.val (.long q1), .second, .val (.long q2), .second, .unset, .unset, .unset, .unset] [(.long (1 : Int64))])) (fun t k => XS.lconst X0.here hx rfl (hb hby d5_14) k) ?_
      exact fin (some (.long (1 : Int64))) X0 (by decide) (by decide) (fun q => by cases q) (show Q_rm5 Z q1 q2 h0 n0 _ s₁.heap _ from (by rw [e0]; exact ⟨congrArg some (congrArg Value.long (show (f_rm5 q1 q2) = (1 : Int64) from (by unfold f_rm5; rw [if_neg hc113, if_pos hc115])).symm), N0, rfl⟩)) (fun fs hr => retJ X0 hx hret (hb hby d5_15) hr)
    · refine go _ (s₁.setTop (mkF m 16 #[.val (.long q1), .second, .val (.long q2), .second, .unset, .unset, .unset, .unset] [])) (fun t k => XS.ifYes X0.here hx rfl (pc0 := 11) (pc' := 16) rfl (hb hby d5_11) rfl ((if0 _ _).trans (feq (fun q => hc115 ((lw_eq q1 (-1 : Int64)).mp q))).2) (by decide) (by decide) k) ?_
      refine go _ (s₁.setTop (mkF m 17 #[.val (.long q1), .second, .val (.long q2), .second, .unset, .unset, .unset, .unset] [(.long q1)])) (fun t k => XS.lloadN X0.here hx rfl (hb hby d5_16) rfl k) ?_
      refine go _ (s₁.setTop (mkF m 18 #[.val (.long q1), .second, .val (.long q2), .second, .unset, .unset, .unset, .unset] [(.long q2), (.long q1)])) (fun t k => XS.lloadN X0.here hx rfl (hb hby d5_17) rfl k) ?_
      refine go _ (s₁.setTop (mkF m 19 #[.val (.long q1), .second, .val (.long q2), .second, .unset, .unset, .unset, .unset] [(.long (q1 + q2))])) (fun t k => XS.ladd X0.here hx rfl (hb hby d5_18) rfl k) ?_
      refine go _ (s₁.setTop (mkF m 21 #[.val (.long q1), .second, .val (.long q2), .second, .val (.long (q1 + q2)), .second, .unset, .unset] [])) (fun t k => XS.lstore X0.here hx rfl (hb hby d5_19) rfl (l' := #[.val (.long q1), .second, .val (.long q2), .second, .val (.long (q1 + q2)), .second, .unset, .unset]) rfl k) ?_
      refine go _ (s₁.setTop (mkF m 24 #[.val (.long q1), .second, .val (.long q2), .second, .val (.long (q1 + q2)), .second, .unset, .unset] [(.long (-9223372036854775808 : Int64))])) (X0.ldc2Long hx hown (mvT hZ (hw _ (List.mem_of_getElem? (i := 19) rfl))) (g := (mkF m 21 #[.val (.long q1), .second, .val (.long q2), .second, .val (.long (q1 + q2)), .second, .unset, .unset] [])) rfl (hb hby d5_21)) ?_
      refine go _ (s₁.setTop (mkF m 26 #[.val (.long q1), .second, .val (.long q2), .second, .val (.long (q1 + q2)), .second, .val (.long (-9223372036854775808 : Int64)), .second] [])) (fun t k => XS.lstore X0.here hx rfl (hb hby d5_24) rfl (l' := #[.val (.long q1), .second, .val (.long q2), .second, .val (.long (q1 + q2)), .second, .val (.long (-9223372036854775808 : Int64)), .second]) rfl k) ?_
      refine go _ (s₁.setTop (mkF m 28 #[.val (.long q1), .second, .val (.long q2), .second, .val (.long (q1 + q2)), .second, .val (.long (-9223372036854775808 : Int64)), .second] [(.long (q1 + q2))])) (fun t k => XS.lload X0.here hx rfl (hb hby d5_26) rfl k) ?_
      refine go _ (s₁.setTop (mkF m 30 #[.val (.long q1), .second, .val (.long q2), .second, .val (.long (q1 + q2)), .second, .val (.long (-9223372036854775808 : Int64)), .second] [(.long (-9223372036854775808 : Int64)), (.long (q1 + q2))])) (fun t k => XS.lload X0.here hx rfl (hb hby d5_28) rfl k) ?_
      refine go _ (s₁.setTop (mkF m 31 #[.val (.long q1), .second, .val (.long q2), .second, .val (.long (q1 + q2)), .second, .val (.long (-9223372036854775808 : Int64)), .second] [(.long ((q1 + q2) ^^^ (-9223372036854775808 : Int64)))])) (fun t k => XS.lxor X0.here hx rfl (hb hby d5_30) rfl k) ?_
      refine go _ (s₁.setTop (mkF m 34 #[.val (.long q1), .second, .val (.long q2), .second, .val (.long (q1 + q2)), .second, .val (.long (-9223372036854775808 : Int64)), .second] [(.long (8608480567731124088 : Int64)), (.long ((q1 + q2) ^^^ (-9223372036854775808 : Int64)))])) (X0.ldc2Long hx hown (mvT hZ (hw _ (List.mem_of_getElem? (i := 20) rfl))) (g := (mkF m 31 #[.val (.long q1), .second, .val (.long q2), .second, .val (.long (q1 + q2)), .second, .val (.long (-9223372036854775808 : Int64)), .second] [(.long ((q1 + q2) ^^^ (-9223372036854775808 : Int64)))])) rfl (hb hby d5_31)) ?_
      refine go _ (s₁.setTop (mkF m 36 #[.val (.long q1), .second, .val (.long q2), .second, .val (.long (q1 + q2)), .second, .val (.long (-9223372036854775808 : Int64)), .second] [(.long (-9223372036854775808 : Int64)), (.long (8608480567731124088 : Int64)), (.long ((q1 + q2) ^^^ (-9223372036854775808 : Int64)))])) (fun t k => XS.lload X0.here hx rfl (hb hby d5_34) rfl k) ?_
      refine go _ (s₁.setTop (mkF m 37 #[.val (.long q1), .second, .val (.long q2), .second, .val (.long (q1 + q2)), .second, .val (.long (-9223372036854775808 : Int64)), .second] [(.long ((8608480567731124088 : Int64) ^^^ (-9223372036854775808 : Int64))), (.long ((q1 + q2) ^^^ (-9223372036854775808 : Int64)))])) (fun t k => XS.lxor X0.here hx rfl (hb hby d5_36) rfl k) ?_
      refine go _ (s₁.setTop (mkF m 38 #[.val (.long q1), .second, .val (.long q2), .second, .val (.long (q1 + q2)), .second, .val (.long (-9223372036854775808 : Int64)), .second] [(.int (lcmpW ((q1 + q2) ^^^ (-9223372036854775808 : Int64)) ((8608480567731124088 : Int64) ^^^ (-9223372036854775808 : Int64))))])) (fun t k => XS.lcmp X0.here hx rfl (hb hby d5_37) rfl k) ?_
      by_cases hc116 : ((q1 + q2) ^^^ (-9223372036854775808 : Int64)) < ((8608480567731124088 : Int64) ^^^ (-9223372036854775808 : Int64))
      · refine go _ (s₁.setTop (mkF m 45 #[.val (.long q1), .second, .val (.long q2), .second, .val (.long (q1 + q2)), .second, .val (.long (-9223372036854775808 : Int64)), .second] [])) (fun t k => XS.ifYes X0.here hx rfl (pc0 := 38) (pc' := 45) rfl (hb hby d5_38) rfl ((if0 _ _).trans (tlt ((lw_lt ((q1 + q2) ^^^ (-9223372036854775808 : Int64)) ((8608480567731124088 : Int64) ^^^ (-9223372036854775808 : Int64))).mpr hc116)).1) (by decide) (by decide) k) ?_
        refine go _ (s₁.setTop (mkF m 46 #[.val (.long q1), .second, .val (.long q2), .second, .val (.long (q1 + q2)), .second, .val (.long (-9223372036854775808 : Int64)), .second] [(.long (0 : Int64))])) (fun t k => XS.lconst X0.here hx rfl (hb hby d5_45) k) ?_
        exact fin (some (.long (0 : Int64))) X0 (by decide) (by decide) (fun q => by cases q) (show Q_rm5 Z q1 q2 h0 n0 _ s₁.heap _ from (by rw [e0]; exact ⟨congrArg some (congrArg Value.long (show (f_rm5 q1 q2) = (0 : Int64) from (by unfold f_rm5; rw [if_neg hc113, if_neg hc115, if_pos hc116])).symm), N0, rfl⟩)) (fun fs hr => retJ X0 hx hret (hb hby d5_46) hr)
      · refine go _ (s₁.setTop (mkF m 41 #[.val (.long q1), .second, .val (.long q2), .second, .val (.long (q1 + q2)), .second, .val (.long (-9223372036854775808 : Int64)), .second] [])) (fun t k => XS.ifNo X0.here hx rfl (hb hby d5_38) rfl ((if0 _ _).trans (flt (fun q => hc116 ((lw_lt ((q1 + q2) ^^^ (-9223372036854775808 : Int64)) ((8608480567731124088 : Int64) ^^^ (-9223372036854775808 : Int64))).mp q))).1) k) ?_
        refine go _ (s₁.setTop (mkF m 42 #[.val (.long q1), .second, .val (.long q2), .second, .val (.long (q1 + q2)), .second, .val (.long (-9223372036854775808 : Int64)), .second] [(.long (1 : Int64))])) (fun t k => XS.lconst X0.here hx rfl (hb hby d5_41) k) ?_
        refine go _ (s₁.setTop (mkF m 46 #[.val (.long q1), .second, .val (.long q2), .second, .val (.long (q1 + q2)), .second, .val (.long (-9223372036854775808 : Int64)), .second] [(.long (1 : Int64))])) (fun t k => XS.goto X0.here hx rfl (pc0 := 42) (pc' := 46) rfl (hb hby d5_42) (by decide) (by decide) k) ?_
        exact fin (some (.long (1 : Int64))) X0 (by decide) (by decide) (fun q => by cases q) (show Q_rm5 Z q1 q2 h0 n0 _ s₁.heap _ from (by rw [e0]; exact ⟨congrArg some (congrArg Value.long (show (f_rm5 q1 q2) = (1 : Int64) from (by unfold f_rm5; rw [if_neg hc113, if_neg hc115, if_neg hc116])).symm), N0, rfl⟩)) (fun fs hr => retJ X0 hx hret (hb hby d5_46) hr)
theorem d6_0 : decode method_7_code 0 = .ok (.aload_n 0, 1) := by decide +kernel
theorem d6_1 : decode method_7_code 1 = .ok (.iload_n 1, 1) := by decide +kernel
theorem d6_2 : decode method_7_code 2 = .ok (.bipush 15, 2) := by decide +kernel
theorem d6_4 : decode method_7_code 4 = .ok (.iadd, 1) := by decide +kernel
theorem d6_5 : decode method_7_code 5 = .ok (.baload, 1) := by decide +kernel
theorem d6_6 : decode method_7_code 6 = .ok (.i2l, 1) := by decide +kernel
theorem d6_7 : decode method_7_code 7 = .ok (.lstore_n 2, 1) := by decide +kernel
theorem d6_8 : decode method_7_code 8 = .ok (.lload_n 2, 1) := by decide +kernel
theorem d6_9 : decode method_7_code 9 = .ok (.ldc2_w 43, 3) := by decide +kernel
theorem d6_12 : decode method_7_code 12 = .ok (.lmul, 1) := by decide +kernel
theorem d6_13 : decode method_7_code 13 = .ok (.aload_n 0, 1) := by decide +kernel
theorem d6_14 : decode method_7_code 14 = .ok (.iload_n 1, 1) := by decide +kernel
theorem d6_15 : decode method_7_code 15 = .ok (.bipush 14, 2) := by decide +kernel
theorem d6_17 : decode method_7_code 17 = .ok (.iadd, 1) := by decide +kernel
theorem d6_18 : decode method_7_code 18 = .ok (.baload, 1) := by decide +kernel
theorem d6_19 : decode method_7_code 19 = .ok (.i2l, 1) := by decide +kernel
theorem d6_20 : decode method_7_code 20 = .ok (.ladd, 1) := by decide +kernel
theorem d6_21 : decode method_7_code 21 = .ok (.lstore_n 2, 1) := by decide +kernel
theorem d6_22 : decode method_7_code 22 = .ok (.lload_n 2, 1) := by decide +kernel
theorem d6_23 : decode method_7_code 23 = .ok (.ldc2_w 43, 3) := by decide +kernel
theorem d6_26 : decode method_7_code 26 = .ok (.lmul, 1) := by decide +kernel
theorem d6_27 : decode method_7_code 27 = .ok (.aload_n 0, 1) := by decide +kernel
theorem d6_28 : decode method_7_code 28 = .ok (.iload_n 1, 1) := by decide +kernel
theorem d6_29 : decode method_7_code 29 = .ok (.bipush 13, 2) := by decide +kernel
theorem d6_31 : decode method_7_code 31 = .ok (.iadd, 1) := by decide +kernel
theorem d6_32 : decode method_7_code 32 = .ok (.baload, 1) := by decide +kernel
theorem d6_33 : decode method_7_code 33 = .ok (.i2l, 1) := by decide +kernel
theorem d6_34 : decode method_7_code 34 = .ok (.ladd, 1) := by decide +kernel
theorem d6_35 : decode method_7_code 35 = .ok (.lstore_n 2, 1) := by decide +kernel
theorem d6_36 : decode method_7_code 36 = .ok (.lload_n 2, 1) := by decide +kernel
theorem d6_37 : decode method_7_code 37 = .ok (.ldc2_w 43, 3) := by decide +kernel
theorem d6_40 : decode method_7_code 40 = .ok (.lmul, 1) := by decide +kernel
theorem d6_41 : decode method_7_code 41 = .ok (.aload_n 0, 1) := by decide +kernel
theorem d6_42 : decode method_7_code 42 = .ok (.iload_n 1, 1) := by decide +kernel
theorem d6_43 : decode method_7_code 43 = .ok (.bipush 12, 2) := by decide +kernel
theorem d6_45 : decode method_7_code 45 = .ok (.iadd, 1) := by decide +kernel
theorem d6_46 : decode method_7_code 46 = .ok (.baload, 1) := by decide +kernel
theorem d6_47 : decode method_7_code 47 = .ok (.i2l, 1) := by decide +kernel
theorem d6_48 : decode method_7_code 48 = .ok (.ladd, 1) := by decide +kernel
theorem d6_49 : decode method_7_code 49 = .ok (.lstore_n 2, 1) := by decide +kernel
theorem d6_50 : decode method_7_code 50 = .ok (.lload_n 2, 1) := by decide +kernel
theorem d6_51 : decode method_7_code 51 = .ok (.ldc2_w 43, 3) := by decide +kernel
theorem d6_54 : decode method_7_code 54 = .ok (.lmul, 1) := by decide +kernel
theorem d6_55 : decode method_7_code 55 = .ok (.aload_n 0, 1) := by decide +kernel
theorem d6_56 : decode method_7_code 56 = .ok (.iload_n 1, 1) := by decide +kernel
theorem d6_57 : decode method_7_code 57 = .ok (.bipush 11, 2) := by decide +kernel
theorem d6_59 : decode method_7_code 59 = .ok (.iadd, 1) := by decide +kernel
theorem d6_60 : decode method_7_code 60 = .ok (.baload, 1) := by decide +kernel
theorem d6_61 : decode method_7_code 61 = .ok (.i2l, 1) := by decide +kernel
theorem d6_62 : decode method_7_code 62 = .ok (.ladd, 1) := by decide +kernel
theorem d6_63 : decode method_7_code 63 = .ok (.lstore_n 2, 1) := by decide +kernel
theorem d6_64 : decode method_7_code 64 = .ok (.lload_n 2, 1) := by decide +kernel
theorem d6_65 : decode method_7_code 65 = .ok (.ldc2_w 43, 3) := by decide +kernel
theorem d6_68 : decode method_7_code 68 = .ok (.lmul, 1) := by decide +kernel
theorem d6_69 : decode method_7_code 69 = .ok (.aload_n 0, 1) := by decide +kernel
theorem d6_70 : decode method_7_code 70 = .ok (.iload_n 1, 1) := by decide +kernel
theorem d6_71 : decode method_7_code 71 = .ok (.bipush 10, 2) := by decide +kernel
theorem d6_73 : decode method_7_code 73 = .ok (.iadd, 1) := by decide +kernel
theorem d6_74 : decode method_7_code 74 = .ok (.baload, 1) := by decide +kernel
theorem d6_75 : decode method_7_code 75 = .ok (.i2l, 1) := by decide +kernel
theorem d6_76 : decode method_7_code 76 = .ok (.ladd, 1) := by decide +kernel
theorem d6_77 : decode method_7_code 77 = .ok (.lstore_n 2, 1) := by decide +kernel
theorem d6_78 : decode method_7_code 78 = .ok (.lload_n 2, 1) := by decide +kernel
theorem d6_79 : decode method_7_code 79 = .ok (.ldc2_w 43, 3) := by decide +kernel
theorem d6_82 : decode method_7_code 82 = .ok (.lmul, 1) := by decide +kernel
theorem d6_83 : decode method_7_code 83 = .ok (.aload_n 0, 1) := by decide +kernel
theorem d6_84 : decode method_7_code 84 = .ok (.iload_n 1, 1) := by decide +kernel
theorem d6_85 : decode method_7_code 85 = .ok (.bipush 9, 2) := by decide +kernel
theorem d6_87 : decode method_7_code 87 = .ok (.iadd, 1) := by decide +kernel
theorem d6_88 : decode method_7_code 88 = .ok (.baload, 1) := by decide +kernel
theorem d6_89 : decode method_7_code 89 = .ok (.i2l, 1) := by decide +kernel
theorem d6_90 : decode method_7_code 90 = .ok (.ladd, 1) := by decide +kernel
theorem d6_91 : decode method_7_code 91 = .ok (.lstore_n 2, 1) := by decide +kernel
theorem d6_92 : decode method_7_code 92 = .ok (.lload_n 2, 1) := by decide +kernel
theorem d6_93 : decode method_7_code 93 = .ok (.ldc2_w 43, 3) := by decide +kernel
theorem d6_96 : decode method_7_code 96 = .ok (.lmul, 1) := by decide +kernel
theorem d6_97 : decode method_7_code 97 = .ok (.aload_n 0, 1) := by decide +kernel
theorem d6_98 : decode method_7_code 98 = .ok (.iload_n 1, 1) := by decide +kernel
theorem d6_99 : decode method_7_code 99 = .ok (.bipush 8, 2) := by decide +kernel
theorem d6_101 : decode method_7_code 101 = .ok (.iadd, 1) := by decide +kernel
theorem d6_102 : decode method_7_code 102 = .ok (.baload, 1) := by decide +kernel
theorem d6_103 : decode method_7_code 103 = .ok (.i2l, 1) := by decide +kernel
theorem d6_104 : decode method_7_code 104 = .ok (.ladd, 1) := by decide +kernel
theorem d6_105 : decode method_7_code 105 = .ok (.lstore_n 2, 1) := by decide +kernel
theorem d6_106 : decode method_7_code 106 = .ok (.lload_n 2, 1) := by decide +kernel
theorem d6_107 : decode method_7_code 107 = .ok (.ldc2_w 43, 3) := by decide +kernel
theorem d6_110 : decode method_7_code 110 = .ok (.lmul, 1) := by decide +kernel
theorem d6_111 : decode method_7_code 111 = .ok (.aload_n 0, 1) := by decide +kernel
theorem d6_112 : decode method_7_code 112 = .ok (.iload_n 1, 1) := by decide +kernel
theorem d6_113 : decode method_7_code 113 = .ok (.bipush 7, 2) := by decide +kernel
theorem d6_115 : decode method_7_code 115 = .ok (.iadd, 1) := by decide +kernel
theorem d6_116 : decode method_7_code 116 = .ok (.baload, 1) := by decide +kernel
theorem d6_117 : decode method_7_code 117 = .ok (.i2l, 1) := by decide +kernel
theorem d6_118 : decode method_7_code 118 = .ok (.ladd, 1) := by decide +kernel
theorem d6_119 : decode method_7_code 119 = .ok (.lstore_n 2, 1) := by decide +kernel
theorem d6_120 : decode method_7_code 120 = .ok (.lload_n 2, 1) := by decide +kernel
theorem d6_121 : decode method_7_code 121 = .ok (.ldc2_w 43, 3) := by decide +kernel
theorem d6_124 : decode method_7_code 124 = .ok (.lmul, 1) := by decide +kernel
theorem d6_125 : decode method_7_code 125 = .ok (.aload_n 0, 1) := by decide +kernel
theorem d6_126 : decode method_7_code 126 = .ok (.iload_n 1, 1) := by decide +kernel
theorem d6_127 : decode method_7_code 127 = .ok (.bipush 6, 2) := by decide +kernel
theorem d6_129 : decode method_7_code 129 = .ok (.iadd, 1) := by decide +kernel
theorem d6_130 : decode method_7_code 130 = .ok (.baload, 1) := by decide +kernel
theorem d6_131 : decode method_7_code 131 = .ok (.i2l, 1) := by decide +kernel
theorem d6_132 : decode method_7_code 132 = .ok (.ladd, 1) := by decide +kernel
theorem d6_133 : decode method_7_code 133 = .ok (.lstore_n 2, 1) := by decide +kernel
theorem d6_134 : decode method_7_code 134 = .ok (.lload_n 2, 1) := by decide +kernel
theorem d6_135 : decode method_7_code 135 = .ok (.ldc2_w 43, 3) := by decide +kernel
theorem d6_138 : decode method_7_code 138 = .ok (.lmul, 1) := by decide +kernel
theorem d6_139 : decode method_7_code 139 = .ok (.aload_n 0, 1) := by decide +kernel
theorem d6_140 : decode method_7_code 140 = .ok (.iload_n 1, 1) := by decide +kernel
theorem d6_141 : decode method_7_code 141 = .ok (.iconst 5, 1) := by decide +kernel
theorem d6_142 : decode method_7_code 142 = .ok (.iadd, 1) := by decide +kernel
theorem d6_143 : decode method_7_code 143 = .ok (.baload, 1) := by decide +kernel
theorem d6_144 : decode method_7_code 144 = .ok (.i2l, 1) := by decide +kernel
theorem d6_145 : decode method_7_code 145 = .ok (.ladd, 1) := by decide +kernel
theorem d6_146 : decode method_7_code 146 = .ok (.lstore_n 2, 1) := by decide +kernel
theorem d6_147 : decode method_7_code 147 = .ok (.lload_n 2, 1) := by decide +kernel
theorem d6_148 : decode method_7_code 148 = .ok (.ldc2_w 43, 3) := by decide +kernel
theorem d6_151 : decode method_7_code 151 = .ok (.lmul, 1) := by decide +kernel
theorem d6_152 : decode method_7_code 152 = .ok (.aload_n 0, 1) := by decide +kernel
theorem d6_153 : decode method_7_code 153 = .ok (.iload_n 1, 1) := by decide +kernel
theorem d6_154 : decode method_7_code 154 = .ok (.iconst 4, 1) := by decide +kernel
theorem d6_155 : decode method_7_code 155 = .ok (.iadd, 1) := by decide +kernel
theorem d6_156 : decode method_7_code 156 = .ok (.baload, 1) := by decide +kernel
theorem d6_157 : decode method_7_code 157 = .ok (.i2l, 1) := by decide +kernel
theorem d6_158 : decode method_7_code 158 = .ok (.ladd, 1) := by decide +kernel
theorem d6_159 : decode method_7_code 159 = .ok (.lstore_n 2, 1) := by decide +kernel
theorem d6_160 : decode method_7_code 160 = .ok (.lload_n 2, 1) := by decide +kernel
theorem d6_161 : decode method_7_code 161 = .ok (.ldc2_w 43, 3) := by decide +kernel
theorem d6_164 : decode method_7_code 164 = .ok (.lmul, 1) := by decide +kernel
theorem d6_165 : decode method_7_code 165 = .ok (.aload_n 0, 1) := by decide +kernel
theorem d6_166 : decode method_7_code 166 = .ok (.iload_n 1, 1) := by decide +kernel
theorem d6_167 : decode method_7_code 167 = .ok (.iconst 3, 1) := by decide +kernel
theorem d6_168 : decode method_7_code 168 = .ok (.iadd, 1) := by decide +kernel
theorem d6_169 : decode method_7_code 169 = .ok (.baload, 1) := by decide +kernel
theorem d6_170 : decode method_7_code 170 = .ok (.i2l, 1) := by decide +kernel
theorem d6_171 : decode method_7_code 171 = .ok (.ladd, 1) := by decide +kernel
theorem d6_172 : decode method_7_code 172 = .ok (.lstore_n 2, 1) := by decide +kernel
theorem d6_173 : decode method_7_code 173 = .ok (.lload_n 2, 1) := by decide +kernel
theorem d6_174 : decode method_7_code 174 = .ok (.ldc2_w 43, 3) := by decide +kernel
theorem d6_177 : decode method_7_code 177 = .ok (.lmul, 1) := by decide +kernel
theorem d6_178 : decode method_7_code 178 = .ok (.aload_n 0, 1) := by decide +kernel
theorem d6_179 : decode method_7_code 179 = .ok (.iload_n 1, 1) := by decide +kernel
theorem d6_180 : decode method_7_code 180 = .ok (.iconst 2, 1) := by decide +kernel
theorem d6_181 : decode method_7_code 181 = .ok (.iadd, 1) := by decide +kernel
theorem d6_182 : decode method_7_code 182 = .ok (.baload, 1) := by decide +kernel
theorem d6_183 : decode method_7_code 183 = .ok (.i2l, 1) := by decide +kernel
theorem d6_184 : decode method_7_code 184 = .ok (.ladd, 1) := by decide +kernel
theorem d6_185 : decode method_7_code 185 = .ok (.lstore_n 2, 1) := by decide +kernel
theorem d6_186 : decode method_7_code 186 = .ok (.lload_n 2, 1) := by decide +kernel
theorem d6_187 : decode method_7_code 187 = .ok (.ldc2_w 43, 3) := by decide +kernel
theorem d6_190 : decode method_7_code 190 = .ok (.lmul, 1) := by decide +kernel
theorem d6_191 : decode method_7_code 191 = .ok (.aload_n 0, 1) := by decide +kernel
theorem d6_192 : decode method_7_code 192 = .ok (.iload_n 1, 1) := by decide +kernel
theorem d6_193 : decode method_7_code 193 = .ok (.iconst 1, 1) := by decide +kernel
theorem d6_194 : decode method_7_code 194 = .ok (.iadd, 1) := by decide +kernel
theorem d6_195 : decode method_7_code 195 = .ok (.baload, 1) := by decide +kernel
theorem d6_196 : decode method_7_code 196 = .ok (.i2l, 1) := by decide +kernel
theorem d6_197 : decode method_7_code 197 = .ok (.ladd, 1) := by decide +kernel
theorem d6_198 : decode method_7_code 198 = .ok (.lstore_n 2, 1) := by decide +kernel
theorem d6_199 : decode method_7_code 199 = .ok (.lload_n 2, 1) := by decide +kernel
theorem d6_200 : decode method_7_code 200 = .ok (.ldc2_w 43, 3) := by decide +kernel
theorem d6_203 : decode method_7_code 203 = .ok (.lmul, 1) := by decide +kernel
theorem d6_204 : decode method_7_code 204 = .ok (.aload_n 0, 1) := by decide +kernel
theorem d6_205 : decode method_7_code 205 = .ok (.iload_n 1, 1) := by decide +kernel
theorem d6_206 : decode method_7_code 206 = .ok (.baload, 1) := by decide +kernel
theorem d6_207 : decode method_7_code 207 = .ok (.i2l, 1) := by decide +kernel
theorem d6_208 : decode method_7_code 208 = .ok (.ladd, 1) := by decide +kernel
theorem d6_209 : decode method_7_code 209 = .ok (.lstore_n 2, 1) := by decide +kernel
theorem d6_210 : decode method_7_code 210 = .ok (.lload_n 2, 1) := by decide +kernel
theorem d6_211 : decode method_7_code 211 = .ok (.lreturn, 1) := by decide +kernel
theorem ef_rm6 (m : MethodId) (a1 : Addr) (p1 : Int32) : entryFrame m #[(.ref a1), (.int p1)] 4 = mkF m 0 #[.val (.ref a1), .val (.int p1), .unset, .unset] [] := by first | (simp [entryFrame, mkF, argsToLocals, Value.category]; done) | rfl
def v_rm6_0 (F : Nat → Int32) (oo : Nat) : Int64 := ((F (oo + 15)).toInt64)
def v_rm6_1 (F : Nat → Int32) (oo : Nat) : Int64 := (((v_rm6_0 F oo) * (16 : Int64)) + ((F (oo + 14)).toInt64))
def v_rm6_2 (F : Nat → Int32) (oo : Nat) : Int64 := (((v_rm6_1 F oo) * (16 : Int64)) + ((F (oo + 13)).toInt64))
def v_rm6_3 (F : Nat → Int32) (oo : Nat) : Int64 := (((v_rm6_2 F oo) * (16 : Int64)) + ((F (oo + 12)).toInt64))
def v_rm6_4 (F : Nat → Int32) (oo : Nat) : Int64 := (((v_rm6_3 F oo) * (16 : Int64)) + ((F (oo + 11)).toInt64))
def v_rm6_5 (F : Nat → Int32) (oo : Nat) : Int64 := (((v_rm6_4 F oo) * (16 : Int64)) + ((F (oo + 10)).toInt64))
def v_rm6_6 (F : Nat → Int32) (oo : Nat) : Int64 := (((v_rm6_5 F oo) * (16 : Int64)) + ((F (oo + 9)).toInt64))
def v_rm6_7 (F : Nat → Int32) (oo : Nat) : Int64 := (((v_rm6_6 F oo) * (16 : Int64)) + ((F (oo + 8)).toInt64))
def v_rm6_8 (F : Nat → Int32) (oo : Nat) : Int64 := (((v_rm6_7 F oo) * (16 : Int64)) + ((F (oo + 7)).toInt64))
def v_rm6_9 (F : Nat → Int32) (oo : Nat) : Int64 := (((v_rm6_8 F oo) * (16 : Int64)) + ((F (oo + 6)).toInt64))
def v_rm6_10 (F : Nat → Int32) (oo : Nat) : Int64 := (((v_rm6_9 F oo) * (16 : Int64)) + ((F (oo + 5)).toInt64))
def v_rm6_11 (F : Nat → Int32) (oo : Nat) : Int64 := (((v_rm6_10 F oo) * (16 : Int64)) + ((F (oo + 4)).toInt64))
def v_rm6_12 (F : Nat → Int32) (oo : Nat) : Int64 := (((v_rm6_11 F oo) * (16 : Int64)) + ((F (oo + 3)).toInt64))
def v_rm6_13 (F : Nat → Int32) (oo : Nat) : Int64 := (((v_rm6_12 F oo) * (16 : Int64)) + ((F (oo + 2)).toInt64))
def v_rm6_14 (F : Nat → Int32) (oo : Nat) : Int64 := (((v_rm6_13 F oo) * (16 : Int64)) + ((F (oo + 1)).toInt64))
def v_rm6_15 (F : Nat → Int32) (oo : Nat) : Int64 := (((v_rm6_14 F oo) * (16 : Int64)) + ((F oo).toInt64))
def own_h (F : Nat → Int32) (oo : Nat) : Int64 := (v_rm6_15 F oo)
def Q_rm6 (Z : State) (a1 : Addr) (p1 : Int32) (F : Nat → Int32) (oo : Nat) (h0 : Heap) (n0 : Nat) (v : Option Value) (h : Heap) (L : List Loc) : Prop := v = some (.long (own_h F oo)) ∧ Fr n0 L ∧ h = h0
set_option maxRecDepth 65536 in
set_option maxHeartbeats 40000000 in
theorem rm6 (l : Launch) (Z : State) (a0 : Array Value) (hw : ∀ d ∈ tables_1, d.before a0 Z = true) (ws : List Jvm.Cond) (a1 : Addr) (p1 : Int32) (F : Nat → Int32) (oo : Nat) (h0 : Heap) (n0 : Nat) (Z0 : n0 ≤ h0.size) (A0 : AF Z h0 a1 .byte 64 (fun j => .int (F j))) (hj : p1.toInt = (oo : Int)) (hi : oo + 16 ≤ 64) :
    MetFree l (⟨"com/example/withhold/withhold/crypto/Ed25519ScalarsDigitsPinLaw", "horner", "([BI)J"⟩ : MethodName) (head1 (Jvm.Cond.code (⟨"com/example/withhold/withhold/crypto/Ed25519ScalarsDigitsPinLaw", "horner", "([BI)J"⟩ : MethodName) method_7_code 4 (some .long) :: ws) ({ frames := 0, cells := 0, slots := 0, locals := 0 } : Room)) (fun a U => a = #[(.ref a1), (.int p1)] ∧ Z.Warmed39 U.vm ∧ U.heap = h0) (fun _ _ _ _ _ => True) (fun _ U o U' => ∃ v L, o = .returned v ∧ Q_rm6 Z a1 p1 F oo h0 n0 v U'.heap L ∧ FrameEnd U o U' L ({ frames := 0, cells := 0, slots := 0, locals := 0 } : Room).cells ({ frames := 0, cells := 0, slots := 0, locals := 0 } : Room).slots) := by
  refine own_body (Q := Q_rm6 Z a1 p1 F oo h0 n0) (plainFor_of_name pn_8) ?_
  intro p e s m below meth c s₁ K go fin X0 hx hby hml hown hnm hret hZ e0
  have hown : s.vm.findClass "com/example/withhold/withhold/crypto/Ed25519ScalarsDigitsPinLaw" = some m.cls := hown
  have N0 := Fr.nil n0
  refine go _ (s₁.setTop (mkF m 0 #[.val (.ref a1), .val (.int p1), .unset, .unset] [])) (fun t k => castTop (ef_rm6 m a1 p1) k) ?_
  have hk0 := hj
  have hk1 := own_plus hj 1 (1 : Int32) (by decide) (own_b31 hi (by decide))
  have hk2 := own_plus hj 2 (2 : Int32) (by decide) (own_b31 hi (by decide))
  have hk3 := own_plus hj 3 (3 : Int32) (by decide) (own_b31 hi (by decide))
  have hk4 := own_plus hj 4 (4 : Int32) (by decide) (own_b31 hi (by decide))
  have hk5 := own_plus hj 5 (5 : Int32) (by decide) (own_b31 hi (by decide))
  have hk6 := own_plus hj 6 (6 : Int32) (by decide) (own_b31 hi (by decide))
  have hk7 := own_plus hj 7 (7 : Int32) (by decide) (own_b31 hi (by decide))
  have hk8 := own_plus hj 8 (8 : Int32) (by decide) (own_b31 hi (by decide))
  have hk9 := own_plus hj 9 (9 : Int32) (by decide) (own_b31 hi (by decide))
  have hk10 := own_plus hj 10 (10 : Int32) (by decide) (own_b31 hi (by decide))
  have hk11 := own_plus hj 11 (11 : Int32) (by decide) (own_b31 hi (by decide))
  have hk12 := own_plus hj 12 (12 : Int32) (by decide) (own_b31 hi (by decide))
  have hk13 := own_plus hj 13 (13 : Int32) (by decide) (own_b31 hi (by decide))
  have hk14 := own_plus hj 14 (14 : Int32) (by decide) (own_b31 hi (by decide))
  have hk15 := own_plus hj 15 (15 : Int32) (by decide) (own_b31 hi (by decide))
  refine go _ (s₁.setTop (mkF m 1 #[.val (.ref a1), .val (.int p1), .unset, .unset] [(.ref a1)])) (fun t k => XS.aloadN X0.here hx rfl (hb hby d6_0) rfl rfl k) ?_
  refine go _ (s₁.setTop (mkF m 2 #[.val (.ref a1), .val (.int p1), .unset, .unset] [(.int p1), (.ref a1)])) (fun t k => XS.iloadN X0.here hx rfl (hb hby d6_1) rfl k) ?_
  refine go _ (s₁.setTop (mkF m 4 #[.val (.ref a1), .val (.int p1), .unset, .unset] [(.int (15 : Int32)), (.int p1), (.ref a1)])) (fun t k => XS.bipush X0.here hx rfl (hb hby d6_2) k) ?_
  refine go _ (s₁.setTop (mkF m 5 #[.val (.ref a1), .val (.int p1), .unset, .unset] [(.int (p1 + (15 : Int32))), (.ref a1)])) (fun t k => XS.iadd X0.here hx rfl (hb hby d6_4) rfl k) ?_
  refine go _ (s₁.setTop (mkF m 6 #[.val (.ref a1), .val (.int p1), .unset, .unset] [(.int (F (oo + 15)))])) (own_ldB X0 hx hZ e0 A0 (i := (oo + 15)) hk15 (own_inb hi (k := 15) (by decide)) (g := (mkF m 5 #[.val (.ref a1), .val (.int p1), .unset, .unset] [(.int (p1 + (15 : Int32))), (.ref a1)])) rfl rfl (hb hby d6_5) (v := (.int (F (oo + 15)))) rfl) ?_
  refine go _ (s₁.setTop (mkF m 7 #[.val (.ref a1), .val (.int p1), .unset, .unset] [(.long ((F (oo + 15)).toInt64))])) (fun t k => XS.i2l X0.here hx rfl (hb hby d6_6) rfl k) ?_
  refine go _ (s₁.setTop (mkF m 8 #[.val (.ref a1), .val (.int p1), .val (.long (v_rm6_0 F oo)), .second] [])) (fun t k => XS.lstoreN X0.here hx rfl (hb hby d6_7) rfl (l' := #[.val (.ref a1), .val (.int p1), .val (.long (v_rm6_0 F oo)), .second]) rfl k) ?_
  refine go _ (s₁.setTop (mkF m 9 #[.val (.ref a1), .val (.int p1), .val (.long (v_rm6_0 F oo)), .second] [(.long (v_rm6_0 F oo))])) (fun t k => XS.lloadN X0.here hx rfl (hb hby d6_8) rfl k) ?_
  refine go _ (s₁.setTop (mkF m 12 #[.val (.ref a1), .val (.int p1), .val (.long (v_rm6_0 F oo)), .second] [(.long (16 : Int64)), (.long (v_rm6_0 F oo))])) (X0.ldc2Long hx hown (mvT hZ (hw _ (List.mem_of_getElem? (i := 25) rfl))) (g := (mkF m 9 #[.val (.ref a1), .val (.int p1), .val (.long (v_rm6_0 F oo)), .second] [(.long (v_rm6_0 F oo))])) rfl (hb hby d6_9)) ?_
  refine go _ (s₁.setTop (mkF m 13 #[.val (.ref a1), .val (.int p1), .val (.long (v_rm6_0 F oo)), .second] [(.long ((v_rm6_0 F oo) * (16 : Int64)))])) (fun t k => XS.lmul X0.here hx rfl (hb hby d6_12) rfl k) ?_
  refine go _ (s₁.setTop (mkF m 14 #[.val (.ref a1), .val (.int p1), .val (.long (v_rm6_0 F oo)), .second] [(.ref a1), (.long ((v_rm6_0 F oo) * (16 : Int64)))])) (fun t k => XS.aloadN X0.here hx rfl (hb hby d6_13) rfl rfl k) ?_
  refine go _ (s₁.setTop (mkF m 15 #[.val (.ref a1), .val (.int p1), .val (.long (v_rm6_0 F oo)), .second] [(.int p1), (.ref a1), (.long ((v_rm6_0 F oo) * (16 : Int64)))])) (fun t k => XS.iloadN X0.here hx rfl (hb hby d6_14) rfl k) ?_
  refine go _ (s₁.setTop (mkF m 17 #[.val (.ref a1), .val (.int p1), .val (.long (v_rm6_0 F oo)), .second] [(.int (14 : Int32)), (.int p1), (.ref a1), (.long ((v_rm6_0 F oo) * (16 : Int64)))])) (fun t k => XS.bipush X0.here hx rfl (hb hby d6_15) k) ?_
  refine go _ (s₁.setTop (mkF m 18 #[.val (.ref a1), .val (.int p1), .val (.long (v_rm6_0 F oo)), .second] [(.int (p1 + (14 : Int32))), (.ref a1), (.long ((v_rm6_0 F oo) * (16 : Int64)))])) (fun t k => XS.iadd X0.here hx rfl (hb hby d6_17) rfl k) ?_
  refine go _ (s₁.setTop (mkF m 19 #[.val (.ref a1), .val (.int p1), .val (.long (v_rm6_0 F oo)), .second] [(.int (F (oo + 14))), (.long ((v_rm6_0 F oo) * (16 : Int64)))])) (own_ldB X0 hx hZ e0 A0 (i := (oo + 14)) hk14 (own_inb hi (k := 14) (by decide)) (g := (mkF m 18 #[.val (.ref a1), .val (.int p1), .val (.long (v_rm6_0 F oo)), .second] [(.int (p1 + (14 : Int32))), (.ref a1), (.long ((v_rm6_0 F oo) * (16 : Int64)))])) rfl rfl (hb hby d6_18) (v := (.int (F (oo + 14)))) rfl) ?_
  refine go _ (s₁.setTop (mkF m 20 #[.val (.ref a1), .val (.int p1), .val (.long (v_rm6_0 F oo)), .second] [(.long ((F (oo + 14)).toInt64)), (.long ((v_rm6_0 F oo) * (16 : Int64)))])) (fun t k => XS.i2l X0.here hx rfl (hb hby d6_19) rfl k) ?_
  refine go _ (s₁.setTop (mkF m 21 #[.val (.ref a1), .val (.int p1), .val (.long (v_rm6_0 F oo)), .second] [(.long (((v_rm6_0 F oo) * (16 : Int64)) + ((F (oo + 14)).toInt64)))])) (fun t k => XS.ladd X0.here hx rfl (hb hby d6_20) rfl k) ?_
  refine go _ (s₁.setTop (mkF m 22 #[.val (.ref a1), .val (.int p1), .val (.long (v_rm6_1 F oo)), .second] [])) (fun t k => XS.lstoreN X0.here hx rfl (hb hby d6_21) rfl (l' := #[.val (.ref a1), .val (.int p1), .val (.long (v_rm6_1 F oo)), .second]) rfl k) ?_
  refine go _ (s₁.setTop (mkF m 23 #[.val (.ref a1), .val (.int p1), .val (.long (v_rm6_1 F oo)), .second] [(.long (v_rm6_1 F oo))])) (fun t k => XS.lloadN X0.here hx rfl (hb hby d6_22) rfl k) ?_
  refine go _ (s₁.setTop (mkF m 26 #[.val (.ref a1), .val (.int p1), .val (.long (v_rm6_1 F oo)), .second] [(.long (16 : Int64)), (.long (v_rm6_1 F oo))])) (X0.ldc2Long hx hown (mvT hZ (hw _ (List.mem_of_getElem? (i := 25) rfl))) (g := (mkF m 23 #[.val (.ref a1), .val (.int p1), .val (.long (v_rm6_1 F oo)), .second] [(.long (v_rm6_1 F oo))])) rfl (hb hby d6_23)) ?_
  refine go _ (s₁.setTop (mkF m 27 #[.val (.ref a1), .val (.int p1), .val (.long (v_rm6_1 F oo)), .second] [(.long ((v_rm6_1 F oo) * (16 : Int64)))])) (fun t k => XS.lmul X0.here hx rfl (hb hby d6_26) rfl k) ?_
  refine go _ (s₁.setTop (mkF m 28 #[.val (.ref a1), .val (.int p1), .val (.long (v_rm6_1 F oo)), .second] [(.ref a1), (.long ((v_rm6_1 F oo) * (16 : Int64)))])) (fun t k => XS.aloadN X0.here hx rfl (hb hby d6_27) rfl rfl k) ?_
  refine go _ (s₁.setTop (mkF m 29 #[.val (.ref a1), .val (.int p1), .val (.long (v_rm6_1 F oo)), .second] [(.int p1), (.ref a1), (.long ((v_rm6_1 F oo) * (16 : Int64)))])) (fun t k => XS.iloadN X0.here hx rfl (hb hby d6_28) rfl k) ?_
  refine go _ (s₁.setTop (mkF m 31 #[.val (.ref a1), .val (.int p1), .val (.long (v_rm6_1 F oo)), .second] [(.int (13 : Int32)), (.int p1), (.ref a1), (.long ((v_rm6_1 F oo) * (16 : Int64)))])) (fun t k => XS.bipush X0.here hx rfl (hb hby d6_29) k) ?_
  refine go _ (s₁.setTop (mkF m 32 #[.val (.ref a1), .val (.int p1), .val (.long (v_rm6_1 F oo)), .second] [(.int (p1 + (13 : Int32))), (.ref a1), (.long ((v_rm6_1 F oo) * (16 : Int64)))])) (fun t k => XS.iadd X0.here hx rfl (hb hby d6_31) rfl k) ?_
  refine go _ (s₁.setTop (mkF m 33 #[.val (.ref a1), .val (.int p1), .val (.long (v_rm6_1 F oo)), .second] [(.int (F (oo + 13))), (.long ((v_rm6_1 F oo) * (16 : Int64)))])) (own_ldB X0 hx hZ e0 A0 (i := (oo + 13)) hk13 (own_inb hi (k := 13) (by decide)) (g := (mkF m 32 #[.val (.ref a1), .val (.int p1), .val (.long (v_rm6_1 F oo)), .second] [(.int (p1 + (13 : Int32))), (.ref a1), (.long ((v_rm6_1 F oo) * (16 : Int64)))])) rfl rfl (hb hby d6_32) (v := (.int (F (oo + 13)))) rfl) ?_
  refine go _ (s₁.setTop (mkF m 34 #[.val (.ref a1), .val (.int p1), .val (.long (v_rm6_1 F oo)), .second] [(.long ((F (oo + 13)).toInt64)), (.long ((v_rm6_1 F oo) * (16 : Int64)))])) (fun t k => XS.i2l X0.here hx rfl (hb hby d6_33) rfl k) ?_
  refine go _ (s₁.setTop (mkF m 35 #[.val (.ref a1), .val (.int p1), .val (.long (v_rm6_1 F oo)), .second] [(.long (((v_rm6_1 F oo) * (16 : Int64)) + ((F (oo + 13)).toInt64)))])) (fun t k => XS.ladd X0.here hx rfl (hb hby d6_34) rfl k) ?_
  refine go _ (s₁.setTop (mkF m 36 #[.val (.ref a1), .val (.int p1), .val (.long (v_rm6_2 F oo)), .second] [])) (fun t k => XS.lstoreN X0.here hx rfl (hb hby d6_35) rfl (l' := #[.val (.ref a1), .val (.int p1), .val (.long (v_rm6_2 F oo)), .second]) rfl k) ?_
  refine go _ (s₁.setTop (mkF m 37 #[.val (.ref a1), .val (.int p1), .val (.long (v_rm6_2 F oo)), .second] [(.long (v_rm6_2 F oo))])) (fun t k => XS.lloadN X0.here hx rfl (hb hby d6_36) rfl k) ?_
  refine go _ (s₁.setTop (mkF m 40 #[.val (.ref a1), .val (.int p1), .val (.long (v_rm6_2 F oo)), .second] [(.long (16 : Int64)), (.long (v_rm6_2 F oo))])) (X0.ldc2Long hx hown (mvT hZ (hw _ (List.mem_of_getElem? (i := 25) rfl))) (g := (mkF m 37 #[.val (.ref a1), .val (.int p1), .val (.long (v_rm6_2 F oo)), .second] [(.long (v_rm6_2 F oo))])) rfl (hb hby d6_37)) ?_
  refine go _ (s₁.setTop (mkF m 41 #[.val (.ref a1), .val (.int p1), .val (.long (v_rm6_2 F oo)), .second] [(.long ((v_rm6_2 F oo) * (16 : Int64)))])) (fun t k => XS.lmul X0.here hx rfl (hb hby d6_40) rfl k) ?_
  refine go _ (s₁.setTop (mkF m 42 #[.val (.ref a1), .val (.int p1), .val (.long (v_rm6_2 F oo)), .second] [(.ref a1), (.long ((v_rm6_2 F oo) * (16 : Int64)))])) (fun t k => XS.aloadN X0.here hx rfl (hb hby d6_41) rfl rfl k) ?_
  refine go _ (s₁.setTop (mkF m 43 #[.val (.ref a1), .val (.int p1), .val (.long (v_rm6_2 F oo)), .second] [(.int p1), (.ref a1), (.long ((v_rm6_2 F oo) * (16 : Int64)))])) (fun t k => XS.iloadN X0.here hx rfl (hb hby d6_42) rfl k) ?_
  refine go _ (s₁.setTop (mkF m 45 #[.val (.ref a1), .val (.int p1), .val (.long (v_rm6_2 F oo)), .second] [(.int (12 : Int32)), (.int p1), (.ref a1), (.long ((v_rm6_2 F oo) * (16 : Int64)))])) (fun t k => XS.bipush X0.here hx rfl (hb hby d6_43) k) ?_
  refine go _ (s₁.setTop (mkF m 46 #[.val (.ref a1), .val (.int p1), .val (.long (v_rm6_2 F oo)), .second] [(.int (p1 + (12 : Int32))), (.ref a1), (.long ((v_rm6_2 F oo) * (16 : Int64)))])) (fun t k => XS.iadd X0.here hx rfl (hb hby d6_45) rfl k) ?_
  refine go _ (s₁.setTop (mkF m 47 #[.val (.ref a1), .val (.int p1), .val (.long (v_rm6_2 F oo)), .second] [(.int (F (oo + 12))), (.long ((v_rm6_2 F oo) * (16 : Int64)))])) (own_ldB X0 hx hZ e0 A0 (i := (oo + 12)) hk12 (own_inb hi (k := 12) (by decide)) (g := (mkF m 46 #[.val (.ref a1), .val (.int p1), .val (.long (v_rm6_2 F oo)), .second] [(.int (p1 + (12 : Int32))), (.ref a1), (.long ((v_rm6_2 F oo) * (16 : Int64)))])) rfl rfl (hb hby d6_46) (v := (.int (F (oo + 12)))) rfl) ?_
  refine go _ (s₁.setTop (mkF m 48 #[.val (.ref a1), .val (.int p1), .val (.long (v_rm6_2 F oo)), .second] [(.long ((F (oo + 12)).toInt64)), (.long ((v_rm6_2 F oo) * (16 : Int64)))])) (fun t k => XS.i2l X0.here hx rfl (hb hby d6_47) rfl k) ?_
  refine go _ (s₁.setTop (mkF m 49 #[.val (.ref a1), .val (.int p1), .val (.long (v_rm6_2 F oo)), .second] [(.long (((v_rm6_2 F oo) * (16 : Int64)) + ((F (oo + 12)).toInt64)))])) (fun t k => XS.ladd X0.here hx rfl (hb hby d6_48) rfl k) ?_
  refine go _ (s₁.setTop (mkF m 50 #[.val (.ref a1), .val (.int p1), .val (.long (v_rm6_3 F oo)), .second] [])) (fun t k => XS.lstoreN X0.here hx rfl (hb hby d6_49) rfl (l' := #[.val (.ref a1), .val (.int p1), .val (.long (v_rm6_3 F oo)), .second]) rfl k) ?_
  refine go _ (s₁.setTop (mkF m 51 #[.val (.ref a1), .val (.int p1), .val (.long (v_rm6_3 F oo)), .second] [(.long (v_rm6_3 F oo))])) (fun t k => XS.lloadN X0.here hx rfl (hb hby d6_50) rfl k) ?_
  refine go _ (s₁.setTop (mkF m 54 #[.val (.ref a1), .val (.int p1), .val (.long (v_rm6_3 F oo)), .second] [(.long (16 : Int64)), (.long (v_rm6_3 F oo))])) (X0.ldc2Long hx hown (mvT hZ (hw _ (List.mem_of_getElem? (i := 25) rfl))) (g := (mkF m 51 #[.val (.ref a1), .val (.int p1), .val (.long (v_rm6_3 F oo)), .second] [(.long (v_rm6_3 F oo))])) rfl (hb hby d6_51)) ?_
  refine go _ (s₁.setTop (mkF m 55 #[.val (.ref a1), .val (.int p1), .val (.long (v_rm6_3 F oo)), .second] [(.long ((v_rm6_3 F oo) * (16 : Int64)))])) (fun t k => XS.lmul X0.here hx rfl (hb hby d6_54) rfl k) ?_
  refine go _ (s₁.setTop (mkF m 56 #[.val (.ref a1), .val (.int p1), .val (.long (v_rm6_3 F oo)), .second] [(.ref a1), (.long ((v_rm6_3 F oo) * (16 : Int64)))])) (fun t k => XS.aloadN X0.here hx rfl (hb hby d6_55) rfl rfl k) ?_
  refine go _ (s₁.setTop (mkF m 57 #[.val (.ref a1), .val (.int p1), .val (.long (v_rm6_3 F oo)), .second] [(.int p1), (.ref a1), (.long ((v_rm6_3 F oo) * (16 : Int64)))])) (fun t k => XS.iloadN X0.here hx rfl (hb hby d6_56) rfl k) ?_
  refine go _ (s₁.setTop (mkF m 59 #[.val (.ref a1), .val (.int p1), .val (.long (v_rm6_3 F oo)), .second] [(.int (11 : Int32)), (.int p1), (.ref a1), (.long ((v_rm6_3 F oo) * (16 : Int64)))])) (fun t k => XS.bipush X0.here hx rfl (hb hby d6_57) k) ?_
  refine go _ (s₁.setTop (mkF m 60 #[.val (.ref a1), .val (.int p1), .val (.long (v_rm6_3 F oo)), .second] [(.int (p1 + (11 : Int32))), (.ref a1), (.long ((v_rm6_3 F oo) * (16 : Int64)))])) (fun t k => XS.iadd X0.here hx rfl (hb hby d6_59) rfl k) ?_
  refine go _ (s₁.setTop (mkF m 61 #[.val (.ref a1), .val (.int p1), .val (.long (v_rm6_3 F oo)), .second] [(.int (F (oo + 11))), (.long ((v_rm6_3 F oo) * (16 : Int64)))])) (own_ldB X0 hx hZ e0 A0 (i := (oo + 11)) hk11 (own_inb hi (k := 11) (by decide)) (g := (mkF m 60 #[.val (.ref a1), .val (.int p1), .val (.long (v_rm6_3 F oo)), .second] [(.int (p1 + (11 : Int32))), (.ref a1), (.long ((v_rm6_3 F oo) * (16 : Int64)))])) rfl rfl (hb hby d6_60) (v := (.int (F (oo + 11)))) rfl) ?_
  refine go _ (s₁.setTop (mkF m 62 #[.val (.ref a1), .val (.int p1), .val (.long (v_rm6_3 F oo)), .second] [(.long ((F (oo + 11)).toInt64)), (.long ((v_rm6_3 F oo) * (16 : Int64)))])) (fun t k => XS.i2l X0.here hx rfl (hb hby d6_61) rfl k) ?_
  refine go _ (s₁.setTop (mkF m 63 #[.val (.ref a1), .val (.int p1), .val (.long (v_rm6_3 F oo)), .second] [(.long (((v_rm6_3 F oo) * (16 : Int64)) + ((F (oo + 11)).toInt64)))])) (fun t k => XS.ladd X0.here hx rfl (hb hby d6_62) rfl k) ?_
  refine go _ (s₁.setTop (mkF m 64 #[.val (.ref a1), .val (.int p1), .val (.long (v_rm6_4 F oo)), .second] [])) (fun t k => XS.lstoreN X0.here hx rfl (hb hby d6_63) rfl (l' := #[.val (.ref a1), .val (.int p1), .val (.long (v_rm6_4 F oo)), .second]) rfl k) ?_
  refine go _ (s₁.setTop (mkF m 65 #[.val (.ref a1), .val (.int p1), .val (.long (v_rm6_4 F oo)), .second] [(.long (v_rm6_4 F oo))])) (fun t k => XS.lloadN X0.here hx rfl (hb hby d6_64) rfl k) ?_
  refine go _ (s₁.setTop (mkF m 68 #[.val (.ref a1), .val (.int p1), .val (.long (v_rm6_4 F oo)), .second] [(.long (16 : Int64)), (.long (v_rm6_4 F oo))])) (X0.ldc2Long hx hown (mvT hZ (hw _ (List.mem_of_getElem? (i := 25) rfl))) (g := (mkF m 65 #[.val (.ref a1), .val (.int p1), .val (.long (v_rm6_4 F oo)), .second] [(.long (v_rm6_4 F oo))])) rfl (hb hby d6_65)) ?_
  refine go _ (s₁.setTop (mkF m 69 #[.val (.ref a1), .val (.int p1), .val (.long (v_rm6_4 F oo)), .second] [(.long ((v_rm6_4 F oo) * (16 : Int64)))])) (fun t k => XS.lmul X0.here hx rfl (hb hby d6_68) rfl k) ?_
  refine go _ (s₁.setTop (mkF m 70 #[.val (.ref a1), .val (.int p1), .val (.long (v_rm6_4 F oo)), .second] [(.ref a1), (.long ((v_rm6_4 F oo) * (16 : Int64)))])) (fun t k => XS.aloadN X0.here hx rfl (hb hby d6_69) rfl rfl k) ?_
  refine go _ (s₁.setTop (mkF m 71 #[.val (.ref a1), .val (.int p1), .val (.long (v_rm6_4 F oo)), .second] [(.int p1), (.ref a1), (.long ((v_rm6_4 F oo) * (16 : Int64)))])) (fun t k => XS.iloadN X0.here hx rfl (hb hby d6_70) rfl k) ?_
  refine go _ (s₁.setTop (mkF m 73 #[.val (.ref a1), .val (.int p1), .val (.long (v_rm6_4 F oo)), .second] [(.int (10 : Int32)), (.int p1), (.ref a1), (.long ((v_rm6_4 F oo) * (16 : Int64)))])) (fun t k => XS.bipush X0.here hx rfl (hb hby d6_71) k) ?_
  refine go _ (s₁.setTop (mkF m 74 #[.val (.ref a1), .val (.int p1), .val (.long (v_rm6_4 F oo)), .second] [(.int (p1 + (10 : Int32))), (.ref a1), (.long ((v_rm6_4 F oo) * (16 : Int64)))])) (fun t k => XS.iadd X0.here hx rfl (hb hby d6_73) rfl k) ?_
  refine go _ (s₁.setTop (mkF m 75 #[.val (.ref a1), .val (.int p1), .val (.long (v_rm6_4 F oo)), .second] [(.int (F (oo + 10))), (.long ((v_rm6_4 F oo) * (16 : Int64)))])) (own_ldB X0 hx hZ e0 A0 (i := (oo + 10)) hk10 (own_inb hi (k := 10) (by decide)) (g := (mkF m 74 #[.val (.ref a1), .val (.int p1), .val (.long (v_rm6_4 F oo)), .second] [(.int (p1 + (10 : Int32))), (.ref a1), (.long ((v_rm6_4 F oo) * (16 : Int64)))])) rfl rfl (hb hby d6_74) (v := (.int (F (oo + 10)))) rfl) ?_
  refine go _ (s₁.setTop (mkF m 76 #[.val (.ref a1), .val (.int p1), .val (.long (v_rm6_4 F oo)), .second] [(.long ((F (oo + 10)).toInt64)), (.long ((v_rm6_4 F oo) * (16 : Int64)))])) (fun t k => XS.i2l X0.here hx rfl (hb hby d6_75) rfl k) ?_
  refine go _ (s₁.setTop (mkF m 77 #[.val (.ref a1), .val (.int p1), .val (.long (v_rm6_4 F oo)), .second] [(.long (((v_rm6_4 F oo) * (16 : Int64)) + ((F (oo + 10)).toInt64)))])) (fun t k => XS.ladd X0.here hx rfl (hb hby d6_76) rfl k) ?_
  refine go _ (s₁.setTop (mkF m 78 #[.val (.ref a1), .val (.int p1), .val (.long (v_rm6_5 F oo)), .second] [])) (fun t k => XS.lstoreN X0.here hx rfl (hb hby d6_77) rfl (l' := #[.val (.ref a1), .val (.int p1), .val (.long (v_rm6_5 F oo)), .second]) rfl k) ?_
  refine go _ (s₁.setTop (mkF m 79 #[.val (.ref a1), .val (.int p1), .val (.long (v_rm6_5 F oo)), .second] [(.long (v_rm6_5 F oo))])) (fun t k => XS.lloadN X0.here hx rfl (hb hby d6_78) rfl k) ?_
  refine go _ (s₁.setTop (mkF m 82 #[.val (.ref a1), .val (.int p1), .val (.long (v_rm6_5 F oo)), .second] [(.long (16 : Int64)), (.long (v_rm6_5 F oo))])) (X0.ldc2Long hx hown (mvT hZ (hw _ (List.mem_of_getElem? (i := 25) rfl))) (g := (mkF m 79 #[.val (.ref a1), .val (.int p1), .val (.long (v_rm6_5 F oo)), .second] [(.long (v_rm6_5 F oo))])) rfl (hb hby d6_79)) ?_
  refine go _ (s₁.setTop (mkF m 83 #[.val (.ref a1), .val (.int p1), .val (.long (v_rm6_5 F oo)), .second] [(.long ((v_rm6_5 F oo) * (16 : Int64)))])) (fun t k => XS.lmul X0.here hx rfl (hb hby d6_82) rfl k) ?_
  refine go _ (s₁.setTop (mkF m 84 #[.val (.ref a1), .val (.int p1), .val (.long (v_rm6_5 F oo)), .second] [(.ref a1), (.long ((v_rm6_5 F oo) * (16 : Int64)))])) (fun t k => XS.aloadN X0.here hx rfl (hb hby d6_83) rfl rfl k) ?_
  refine go _ (s₁.setTop (mkF m 85 #[.val (.ref a1), .val (.int p1), .val (.long (v_rm6_5 F oo)), .second] [(.int p1), (.ref a1), (.long ((v_rm6_5 F oo) * (16 : Int64)))])) (fun t k => XS.iloadN X0.here hx rfl (hb hby d6_84) rfl k) ?_
  refine go _ (s₁.setTop (mkF m 87 #[.val (.ref a1), .val (.int p1), .val (.long (v_rm6_5 F oo)), .second] [(.int (9 : Int32)), (.int p1), (.ref a1), (.long ((v_rm6_5 F oo) * (16 : Int64)))])) (fun t k => XS.bipush X0.here hx rfl (hb hby d6_85) k) ?_
  refine go _ (s₁.setTop (mkF m 88 #[.val (.ref a1), .val (.int p1), .val (.long (v_rm6_5 F oo)), .second] [(.int (p1 + (9 : Int32))), (.ref a1), (.long ((v_rm6_5 F oo) * (16 : Int64)))])) (fun t k => XS.iadd X0.here hx rfl (hb hby d6_87) rfl k) ?_
  refine go _ (s₁.setTop (mkF m 89 #[.val (.ref a1), .val (.int p1), .val (.long (v_rm6_5 F oo)), .second] [(.int (F (oo + 9))), (.long ((v_rm6_5 F oo) * (16 : Int64)))])) (own_ldB X0 hx hZ e0 A0 (i := (oo + 9)) hk9 (own_inb hi (k := 9) (by decide)) (g := (mkF m 88 #[.val (.ref a1), .val (.int p1), .val (.long (v_rm6_5 F oo)), .second] [(.int (p1 + (9 : Int32))), (.ref a1), (.long ((v_rm6_5 F oo) * (16 : Int64)))])) rfl rfl (hb hby d6_88) (v := (.int (F (oo + 9)))) rfl) ?_
  refine go _ (s₁.setTop (mkF m 90 #[.val (.ref a1), .val (.int p1), .val (.long (v_rm6_5 F oo)), .second] [(.long ((F (oo + 9)).toInt64)), (.long ((v_rm6_5 F oo) * (16 : Int64)))])) (fun t k => XS.i2l X0.here hx rfl (hb hby d6_89) rfl k) ?_
  refine go _ (s₁.setTop (mkF m 91 #[.val (.ref a1), .val (.int p1), .val (.long (v_rm6_5 F oo)), .second] [(.long (((v_rm6_5 F oo) * (16 : Int64)) + ((F (oo + 9)).toInt64)))])) (fun t k => XS.ladd X0.here hx rfl (hb hby d6_90) rfl k) ?_
  refine go _ (s₁.setTop (mkF m 92 #[.val (.ref a1), .val (.int p1), .val (.long (v_rm6_6 F oo)), .second] [])) (fun t k => XS.lstoreN X0.here hx rfl (hb hby d6_91) rfl (l' := #[.val (.ref a1), .val (.int p1), .val (.long (v_rm6_6 F oo)), .second]) rfl k) ?_
  refine go _ (s₁.setTop (mkF m 93 #[.val (.ref a1), .val (.int p1), .val (.long (v_rm6_6 F oo)), .second] [(.long (v_rm6_6 F oo))])) (fun t k => XS.lloadN X0.here hx rfl (hb hby d6_92) rfl k) ?_
  refine go _ (s₁.setTop (mkF m 96 #[.val (.ref a1), .val (.int p1), .val (.long (v_rm6_6 F oo)), .second] [(.long (16 : Int64)), (.long (v_rm6_6 F oo))])) (X0.ldc2Long hx hown (mvT hZ (hw _ (List.mem_of_getElem? (i := 25) rfl))) (g := (mkF m 93 #[.val (.ref a1), .val (.int p1), .val (.long (v_rm6_6 F oo)), .second] [(.long (v_rm6_6 F oo))])) rfl (hb hby d6_93)) ?_
  refine go _ (s₁.setTop (mkF m 97 #[.val (.ref a1), .val (.int p1), .val (.long (v_rm6_6 F oo)), .second] [(.long ((v_rm6_6 F oo) * (16 : Int64)))])) (fun t k => XS.lmul X0.here hx rfl (hb hby d6_96) rfl k) ?_
  refine go _ (s₁.setTop (mkF m 98 #[.val (.ref a1), .val (.int p1), .val (.long (v_rm6_6 F oo)), .second] [(.ref a1), (.long ((v_rm6_6 F oo) * (16 : Int64)))])) (fun t k => XS.aloadN X0.here hx rfl (hb hby d6_97) rfl rfl k) ?_
  refine go _ (s₁.setTop (mkF m 99 #[.val (.ref a1), .val (.int p1), .val (.long (v_rm6_6 F oo)), .second] [(.int p1), (.ref a1), (.long ((v_rm6_6 F oo) * (16 : Int64)))])) (fun t k => XS.iloadN X0.here hx rfl (hb hby d6_98) rfl k) ?_
  refine go _ (s₁.setTop (mkF m 101 #[.val (.ref a1), .val (.int p1), .val (.long (v_rm6_6 F oo)), .second] [(.int (8 : Int32)), (.int p1), (.ref a1), (.long ((v_rm6_6 F oo) * (16 : Int64)))])) (fun t k => XS.bipush X0.here hx rfl (hb hby d6_99) k) ?_
  refine go _ (s₁.setTop (mkF m 102 #[.val (.ref a1), .val (.int p1), .val (.long (v_rm6_6 F oo)), .second] [(.int (p1 + (8 : Int32))), (.ref a1), (.long ((v_rm6_6 F oo) * (16 : Int64)))])) (fun t k => XS.iadd X0.here hx rfl (hb hby d6_101) rfl k) ?_
  refine go _ (s₁.setTop (mkF m 103 #[.val (.ref a1), .val (.int p1), .val (.long (v_rm6_6 F oo)), .second] [(.int (F (oo + 8))), (.long ((v_rm6_6 F oo) * (16 : Int64)))])) (own_ldB X0 hx hZ e0 A0 (i := (oo + 8)) hk8 (own_inb hi (k := 8) (by decide)) (g := (mkF m 102 #[.val (.ref a1), .val (.int p1), .val (.long (v_rm6_6 F oo)), .second] [(.int (p1 + (8 : Int32))), (.ref a1), (.long ((v_rm6_6 F oo) * (16 : Int64)))])) rfl rfl (hb hby d6_102) (v := (.int (F (oo + 8)))) rfl) ?_
  refine go _ (s₁.setTop (mkF m 104 #[.val (.ref a1), .val (.int p1), .val (.long (v_rm6_6 F oo)), .second] [(.long ((F (oo + 8)).toInt64)), (.long ((v_rm6_6 F oo) * (16 : Int64)))])) (fun t k => XS.i2l X0.here hx rfl (hb hby d6_103) rfl k) ?_
  refine go _ (s₁.setTop (mkF m 105 #[.val (.ref a1), .val (.int p1), .val (.long (v_rm6_6 F oo)), .second] [(.long (((v_rm6_6 F oo) * (16 : Int64)) + ((F (oo + 8)).toInt64)))])) (fun t k => XS.ladd X0.here hx rfl (hb hby d6_104) rfl k) ?_
  refine go _ (s₁.setTop (mkF m 106 #[.val (.ref a1), .val (.int p1), .val (.long (v_rm6_7 F oo)), .second] [])) (fun t k => XS.lstoreN X0.here hx rfl (hb hby d6_105) rfl (l' := #[.val (.ref a1), .val (.int p1), .val (.long (v_rm6_7 F oo)), .second]) rfl k) ?_
  refine go _ (s₁.setTop (mkF m 107 #[.val (.ref a1), .val (.int p1), .val (.long (v_rm6_7 F oo)), .second] [(.long (v_rm6_7 F oo))])) (fun t k => XS.lloadN X0.here hx rfl (hb hby d6_106) rfl k) ?_
  refine go _ (s₁.setTop (mkF m 110 #[.val (.ref a1), .val (.int p1), .val (.long (v_rm6_7 F oo)), .second] [(.long (16 : Int64)), (.long (v_rm6_7 F oo))])) (X0.ldc2Long hx hown (mvT hZ (hw _ (List.mem_of_getElem? (i := 25) rfl))) (g := (mkF m 107 #[.val (.ref a1), .val (.int p1), .val (.long (v_rm6_7 F oo)), .second] [(.long (v_rm6_7 F oo))])) rfl (hb hby d6_107)) ?_
  refine go _ (s₁.setTop (mkF m 111 #[.val (.ref a1), .val (.int p1), .val (.long (v_rm6_7 F oo)), .second] [(.long ((v_rm6_7 F oo) * (16 : Int64)))])) (fun t k => XS.lmul X0.here hx rfl (hb hby d6_110) rfl k) ?_
  refine go _ (s₁.setTop (mkF m 112 #[.val (.ref a1), .val (.int p1), .val (.long (v_rm6_7 F oo)), .second] [(.ref a1), (.long ((v_rm6_7 F oo) * (16 : Int64)))])) (fun t k => XS.aloadN X0.here hx rfl (hb hby d6_111) rfl rfl k) ?_
  refine go _ (s₁.setTop (mkF m 113 #[.val (.ref a1), .val (.int p1), .val (.long (v_rm6_7 F oo)), .second] [(.int p1), (.ref a1), (.long ((v_rm6_7 F oo) * (16 : Int64)))])) (fun t k => XS.iloadN X0.here hx rfl (hb hby d6_112) rfl k) ?_
  refine go _ (s₁.setTop (mkF m 115 #[.val (.ref a1), .val (.int p1), .val (.long (v_rm6_7 F oo)), .second] [(.int (7 : Int32)), (.int p1), (.ref a1), (.long ((v_rm6_7 F oo) * (16 : Int64)))])) (fun t k => XS.bipush X0.here hx rfl (hb hby d6_113) k) ?_
  refine go _ (s₁.setTop (mkF m 116 #[.val (.ref a1), .val (.int p1), .val (.long (v_rm6_7 F oo)), .second] [(.int (p1 + (7 : Int32))), (.ref a1), (.long ((v_rm6_7 F oo) * (16 : Int64)))])) (fun t k => XS.iadd X0.here hx rfl (hb hby d6_115) rfl k) ?_
  refine go _ (s₁.setTop (mkF m 117 #[.val (.ref a1), .val (.int p1), .val (.long (v_rm6_7 F oo)), .second] [(.int (F (oo + 7))), (.long ((v_rm6_7 F oo) * (16 : Int64)))])) (own_ldB X0 hx hZ e0 A0 (i := (oo + 7)) hk7 (own_inb hi (k := 7) (by decide)) (g := (mkF m 116 #[.val (.ref a1), .val (.int p1), .val (.long (v_rm6_7 F oo)), .second] [(.int (p1 + (7 : Int32))), (.ref a1), (.long ((v_rm6_7 F oo) * (16 : Int64)))])) rfl rfl (hb hby d6_116) (v := (.int (F (oo + 7)))) rfl) ?_
  refine go _ (s₁.setTop (mkF m 118 #[.val (.ref a1), .val (.int p1), .val (.long (v_rm6_7 F oo)), .second] [(.long ((F (oo + 7)).toInt64)), (.long ((v_rm6_7 F oo) * (16 : Int64)))])) (fun t k => XS.i2l X0.here hx rfl (hb hby d6_117) rfl k) ?_
  refine go _ (s₁.setTop (mkF m 119 #[.val (.ref a1), .val (.int p1), .val (.long (v_rm6_7 F oo)), .second] [(.long (((v_rm6_7 F oo) * (16 : Int64)) + ((F (oo + 7)).toInt64)))])) (fun t k => XS.ladd X0.here hx rfl (hb hby d6_118) rfl k) ?_
  refine go _ (s₁.setTop (mkF m 120 #[.val (.ref a1), .val (.int p1), .val (.long (v_rm6_8 F oo)), .second] [])) (fun t k => XS.lstoreN X0.here hx rfl (hb hby d6_119) rfl (l' := #[.val (.ref a1), .val (.int p1), .val (.long (v_rm6_8 F oo)), .second]) rfl k) ?_
  refine go _ (s₁.setTop (mkF m 121 #[.val (.ref a1), .val (.int p1), .val (.long (v_rm6_8 F oo)), .second] [(.long (v_rm6_8 F oo))])) (fun t k => XS.lloadN X0.here hx rfl (hb hby d6_120) rfl k) ?_
  refine go _ (s₁.setTop (mkF m 124 #[.val (.ref a1), .val (.int p1), .val (.long (v_rm6_8 F oo)), .second] [(.long (16 : Int64)), (.long (v_rm6_8 F oo))])) (X0.ldc2Long hx hown (mvT hZ (hw _ (List.mem_of_getElem? (i := 25) rfl))) (g := (mkF m 121 #[.val (.ref a1), .val (.int p1), .val (.long (v_rm6_8 F oo)), .second] [(.long (v_rm6_8 F oo))])) rfl (hb hby d6_121)) ?_
  refine go _ (s₁.setTop (mkF m 125 #[.val (.ref a1), .val (.int p1), .val (.long (v_rm6_8 F oo)), .second] [(.long ((v_rm6_8 F oo) * (16 : Int64)))])) (fun t k => XS.lmul X0.here hx rfl (hb hby d6_124) rfl k) ?_
  refine go _ (s₁.setTop (mkF m 126 #[.val (.ref a1), .val (.int p1), .val (.long (v_rm6_8 F oo)), .second] [(.ref a1), (.long ((v_rm6_8 F oo) * (16 : Int64)))])) (fun t k => XS.aloadN X0.here hx rfl (hb hby d6_125) rfl rfl k) ?_
  refine go _ (s₁.setTop (mkF m 127 #[.val (.ref a1), .val (.int p1), .val (.long (v_rm6_8 F oo)), .second] [(.int p1), (.ref a1), (.long ((v_rm6_8 F oo) * (16 : Int64)))])) (fun t k => XS.iloadN X0.here hx rfl (hb hby d6_126) rfl k) ?_
  refine go _ (s₁.setTop (mkF m 129 #[.val (.ref a1), .val (.int p1), .val (.long (v_rm6_8 F oo)), .second] [(.int (6 : Int32)), (.int p1), (.ref a1), (.long ((v_rm6_8 F oo) * (16 : Int64)))])) (fun t k => XS.bipush X0.here hx rfl (hb hby d6_127) k) ?_
  refine go _ (s₁.setTop (mkF m 130 #[.val (.ref a1), .val (.int p1), .val (.long (v_rm6_8 F oo)), .second] [(.int (p1 + (6 : Int32))), (.ref a1), (.long ((v_rm6_8 F oo) * (16 : Int64)))])) (fun t k => XS.iadd X0.here hx rfl (hb hby d6_129) rfl k) ?_
  refine go _ (s₁.setTop (mkF m 131 #[.val (.ref a1), .val (.int p1), .val (.long (v_rm6_8 F oo)), .second] [(.int (F (oo + 6))), (.long ((v_rm6_8 F oo) * (16 : Int64)))])) (own_ldB X0 hx hZ e0 A0 (i := (oo + 6)) hk6 (own_inb hi (k := 6) (by decide)) (g := (mkF m 130 #[.val (.ref a1), .val (.int p1), .val (.long (v_rm6_8 F oo)), .second] [(.int (p1 + (6 : Int32))), (.ref a1), (.long ((v_rm6_8 F oo) * (16 : Int64)))])) rfl rfl (hb hby d6_130) (v := (.int (F (oo + 6)))) rfl) ?_
  refine go _ (s₁.setTop (mkF m 132 #[.val (.ref a1), .val (.int p1), .val (.long (v_rm6_8 F oo)), .second] [(.long ((F (oo + 6)).toInt64)), (.long ((v_rm6_8 F oo) * (16 : Int64)))])) (fun t k => XS.i2l X0.here hx rfl (hb hby d6_131) rfl k) ?_
  refine go _ (s₁.setTop (mkF m 133 #[.val (.ref a1), .val (.int p1), .val (.long (v_rm6_8 F oo)), .second] [(.long (((v_rm6_8 F oo) * (16 : Int64)) + ((F (oo + 6)).toInt64)))])) (fun t k => XS.ladd X0.here hx rfl (hb hby d6_132) rfl k) ?_
  refine go _ (s₁.setTop (mkF m 134 #[.val (.ref a1), .val (.int p1), .val (.long (v_rm6_9 F oo)), .second] [])) (fun t k => XS.lstoreN X0.here hx rfl (hb hby d6_133) rfl (l' := #[.val (.ref a1), .val (.int p1), .val (.long (v_rm6_9 F oo)), .second]) rfl k) ?_
  refine go _ (s₁.setTop (mkF m 135 #[.val (.ref a1), .val (.int p1), .val (.long (v_rm6_9 F oo)), .second] [(.long (v_rm6_9 F oo))])) (fun t k => XS.lloadN X0.here hx rfl (hb hby d6_134) rfl k) ?_
  refine go _ (s₁.setTop (mkF m 138 #[.val (.ref a1), .val (.int p1), .val (.long (v_rm6_9 F oo)), .second] [(.long (16 : Int64)), (.long (v_rm6_9 F oo))])) (X0.ldc2Long hx hown (mvT hZ (hw _ (List.mem_of_getElem? (i := 25) rfl))) (g := (mkF m 135 #[.val (.ref a1), .val (.int p1), .val (.long (v_rm6_9 F oo)), .second] [(.long (v_rm6_9 F oo))])) rfl (hb hby d6_135)) ?_
  refine go _ (s₁.setTop (mkF m 139 #[.val (.ref a1), .val (.int p1), .val (.long (v_rm6_9 F oo)), .second] [(.long ((v_rm6_9 F oo) * (16 : Int64)))])) (fun t k => XS.lmul X0.here hx rfl (hb hby d6_138) rfl k) ?_
  refine go _ (s₁.setTop (mkF m 140 #[.val (.ref a1), .val (.int p1), .val (.long (v_rm6_9 F oo)), .second] [(.ref a1), (.long ((v_rm6_9 F oo) * (16 : Int64)))])) (fun t k => XS.aloadN X0.here hx rfl (hb hby d6_139) rfl rfl k) ?_
  refine go _ (s₁.setTop (mkF m 141 #[.val (.ref a1), .val (.int p1), .val (.long (v_rm6_9 F oo)), .second] [(.int p1), (.ref a1), (.long ((v_rm6_9 F oo) * (16 : Int64)))])) (fun t k => XS.iloadN X0.here hx rfl (hb hby d6_140) rfl k) ?_
  refine go _ (s₁.setTop (mkF m 142 #[.val (.ref a1), .val (.int p1), .val (.long (v_rm6_9 F oo)), .second] [(.int (5 : Int32)), (.int p1), (.ref a1), (.long ((v_rm6_9 F oo) * (16 : Int64)))])) (fun t k => XS.iconst X0.here hx rfl (hb hby d6_141) k) ?_
  refine go _ (s₁.setTop (mkF m 143 #[.val (.ref a1), .val (.int p1), .val (.long (v_rm6_9 F oo)), .second] [(.int (p1 + (5 : Int32))), (.ref a1), (.long ((v_rm6_9 F oo) * (16 : Int64)))])) (fun t k => XS.iadd X0.here hx rfl (hb hby d6_142) rfl k) ?_
  refine go _ (s₁.setTop (mkF m 144 #[.val (.ref a1), .val (.int p1), .val (.long (v_rm6_9 F oo)), .second] [(.int (F (oo + 5))), (.long ((v_rm6_9 F oo) * (16 : Int64)))])) (own_ldB X0 hx hZ e0 A0 (i := (oo + 5)) hk5 (own_inb hi (k := 5) (by decide)) (g := (mkF m 143 #[.val (.ref a1), .val (.int p1), .val (.long (v_rm6_9 F oo)), .second] [(.int (p1 + (5 : Int32))), (.ref a1), (.long ((v_rm6_9 F oo) * (16 : Int64)))])) rfl rfl (hb hby d6_143) (v := (.int (F (oo + 5)))) rfl) ?_
  refine go _ (s₁.setTop (mkF m 145 #[.val (.ref a1), .val (.int p1), .val (.long (v_rm6_9 F oo)), .second] [(.long ((F (oo + 5)).toInt64)), (.long ((v_rm6_9 F oo) * (16 : Int64)))])) (fun t k => XS.i2l X0.here hx rfl (hb hby d6_144) rfl k) ?_
  refine go _ (s₁.setTop (mkF m 146 #[.val (.ref a1), .val (.int p1), .val (.long (v_rm6_9 F oo)), .second] [(.long (((v_rm6_9 F oo) * (16 : Int64)) + ((F (oo + 5)).toInt64)))])) (fun t k => XS.ladd X0.here hx rfl (hb hby d6_145) rfl k) ?_
  refine go _ (s₁.setTop (mkF m 147 #[.val (.ref a1), .val (.int p1), .val (.long (v_rm6_10 F oo)), .second] [])) (fun t k => XS.lstoreN X0.here hx rfl (hb hby d6_146) rfl (l' := #[.val (.ref a1), .val (.int p1), .val (.long (v_rm6_10 F oo)), .second]) rfl k) ?_
  refine go _ (s₁.setTop (mkF m 148 #[.val (.ref a1), .val (.int p1), .val (.long (v_rm6_10 F oo)), .second] [(.long (v_rm6_10 F oo))])) (fun t k => XS.lloadN X0.here hx rfl (hb hby d6_147) rfl k) ?_
  refine go _ (s₁.setTop (mkF m 151 #[.val (.ref a1), .val (.int p1), .val (.long (v_rm6_10 F oo)), .second] [(.long (16 : Int64)), (.long (v_rm6_10 F oo))])) (X0.ldc2Long hx hown (mvT hZ (hw _ (List.mem_of_getElem? (i := 25) rfl))) (g := (mkF m 148 #[.val (.ref a1), .val (.int p1), .val (.long (v_rm6_10 F oo)), .second] [(.long (v_rm6_10 F oo))])) rfl (hb hby d6_148)) ?_
  refine go _ (s₁.setTop (mkF m 152 #[.val (.ref a1), .val (.int p1), .val (.long (v_rm6_10 F oo)), .second] [(.long ((v_rm6_10 F oo) * (16 : Int64)))])) (fun t k => XS.lmul X0.here hx rfl (hb hby d6_151) rfl k) ?_
  refine go _ (s₁.setTop (mkF m 153 #[.val (.ref a1), .val (.int p1), .val (.long (v_rm6_10 F oo)), .second] [(.ref a1), (.long ((v_rm6_10 F oo) * (16 : Int64)))])) (fun t k => XS.aloadN X0.here hx rfl (hb hby d6_152) rfl rfl k) ?_
  refine go _ (s₁.setTop (mkF m 154 #[.val (.ref a1), .val (.int p1), .val (.long (v_rm6_10 F oo)), .second] [(.int p1), (.ref a1), (.long ((v_rm6_10 F oo) * (16 : Int64)))])) (fun t k => XS.iloadN X0.here hx rfl (hb hby d6_153) rfl k) ?_
  refine go _ (s₁.setTop (mkF m 155 #[.val (.ref a1), .val (.int p1), .val (.long (v_rm6_10 F oo)), .second] [(.int (4 : Int32)), (.int p1), (.ref a1), (.long ((v_rm6_10 F oo) * (16 : Int64)))])) (fun t k => XS.iconst X0.here hx rfl (hb hby d6_154) k) ?_
  refine go _ (s₁.setTop (mkF m 156 #[.val (.ref a1), .val (.int p1), .val (.long (v_rm6_10 F oo)), .second] [(.int (p1 + (4 : Int32))), (.ref a1), (.long ((v_rm6_10 F oo) * (16 : Int64)))])) (fun t k => XS.iadd X0.here hx rfl (hb hby d6_155) rfl k) ?_
  refine go _ (s₁.setTop (mkF m 157 #[.val (.ref a1), .val (.int p1), .val (.long (v_rm6_10 F oo)), .second] [(.int (F (oo + 4))), (.long ((v_rm6_10 F oo) * (16 : Int64)))])) (own_ldB X0 hx hZ e0 A0 (i := (oo + 4)) hk4 (own_inb hi (k := 4) (by decide)) (g := (mkF m 156 #[.val (.ref a1), .val (.int p1), .val (.long (v_rm6_10 F oo)), .second] [(.int (p1 + (4 : Int32))), (.ref a1), (.long ((v_rm6_10 F oo) * (16 : Int64)))])) rfl rfl (hb hby d6_156) (v := (.int (F (oo + 4)))) rfl) ?_
  refine go _ (s₁.setTop (mkF m 158 #[.val (.ref a1), .val (.int p1), .val (.long (v_rm6_10 F oo)), .second] [(.long ((F (oo + 4)).toInt64)), (.long ((v_rm6_10 F oo) * (16 : Int64)))])) (fun t k => XS.i2l X0.here hx rfl (hb hby d6_157) rfl k) ?_
  refine go _ (s₁.setTop (mkF m 159 #[.val (.ref a1), .val (.int p1), .val (.long (v_rm6_10 F oo)), .second] [(.long (((v_rm6_10 F oo) * (16 : Int64)) + ((F (oo + 4)).toInt64)))])) (fun t k => XS.ladd X0.here hx rfl (hb hby d6_158) rfl k) ?_
  refine go _ (s₁.setTop (mkF m 160 #[.val (.ref a1), .val (.int p1), .val (.long (v_rm6_11 F oo)), .second] [])) (fun t k => XS.lstoreN X0.here hx rfl (hb hby d6_159) rfl (l' := #[.val (.ref a1), .val (.int p1), .val (.long (v_rm6_11 F oo)), .second]) rfl k) ?_
  refine go _ (s₁.setTop (mkF m 161 #[.val (.ref a1), .val (.int p1), .val (.long (v_rm6_11 F oo)), .second] [(.long (v_rm6_11 F oo))])) (fun t k => XS.lloadN X0.here hx rfl (hb hby d6_160) rfl k) ?_
  refine go _ (s₁.setTop (mkF m 164 #[.val (.ref a1), .val (.int p1), .val (.long (v_rm6_11 F oo)), .second] [(.long (16 : Int64)), (.long (v_rm6_11 F oo))])) (X0.ldc2Long hx hown (mvT hZ (hw _ (List.mem_of_getElem? (i := 25) rfl))) (g := (mkF m 161 #[.val (.ref a1), .val (.int p1), .val (.long (v_rm6_11 F oo)), .second] [(.long (v_rm6_11 F oo))])) rfl (hb hby d6_161)) ?_
  refine go _ (s₁.setTop (mkF m 165 #[.val (.ref a1), .val (.int p1), .val (.long (v_rm6_11 F oo)), .second] [(.long ((v_rm6_11 F oo) * (16 : Int64)))])) (fun t k => XS.lmul X0.here hx rfl (hb hby d6_164) rfl k) ?_
  refine go _ (s₁.setTop (mkF m 166 #[.val (.ref a1), .val (.int p1), .val (.long (v_rm6_11 F oo)), .second] [(.ref a1), (.long ((v_rm6_11 F oo) * (16 : Int64)))])) (fun t k => XS.aloadN X0.here hx rfl (hb hby d6_165) rfl rfl k) ?_
  refine go _ (s₁.setTop (mkF m 167 #[.val (.ref a1), .val (.int p1), .val (.long (v_rm6_11 F oo)), .second] [(.int p1), (.ref a1), (.long ((v_rm6_11 F oo) * (16 : Int64)))])) (fun t k => XS.iloadN X0.here hx rfl (hb hby d6_166) rfl k) ?_
  refine go _ (s₁.setTop (mkF m 168 #[.val (.ref a1), .val (.int p1), .val (.long (v_rm6_11 F oo)), .second] [(.int (3 : Int32)), (.int p1), (.ref a1), (.long ((v_rm6_11 F oo) * (16 : Int64)))])) (fun t k => XS.iconst X0.here hx rfl (hb hby d6_167) k) ?_
  refine go _ (s₁.setTop (mkF m 169 #[.val (.ref a1), .val (.int p1), .val (.long (v_rm6_11 F oo)), .second] [(.int (p1 + (3 : Int32))), (.ref a1), (.long ((v_rm6_11 F oo) * (16 : Int64)))])) (fun t k => XS.iadd X0.here hx rfl (hb hby d6_168) rfl k) ?_
  refine go _ (s₁.setTop (mkF m 170 #[.val (.ref a1), .val (.int p1), .val (.long (v_rm6_11 F oo)), .second] [(.int (F (oo + 3))), (.long ((v_rm6_11 F oo) * (16 : Int64)))])) (own_ldB X0 hx hZ e0 A0 (i := (oo + 3)) hk3 (own_inb hi (k := 3) (by decide)) (g := (mkF m 169 #[.val (.ref a1), .val (.int p1), .val (.long (v_rm6_11 F oo)), .second] [(.int (p1 + (3 : Int32))), (.ref a1), (.long ((v_rm6_11 F oo) * (16 : Int64)))])) rfl rfl (hb hby d6_169) (v := (.int (F (oo + 3)))) rfl) ?_
  refine go _ (s₁.setTop (mkF m 171 #[.val (.ref a1), .val (.int p1), .val (.long (v_rm6_11 F oo)), .second] [(.long ((F (oo + 3)).toInt64)), (.long ((v_rm6_11 F oo) * (16 : Int64)))])) (fun t k => XS.i2l X0.here hx rfl (hb hby d6_170) rfl k) ?_
  refine go _ (s₁.setTop (mkF m 172 #[.val (.ref a1), .val (.int p1), .val (.long (v_rm6_11 F oo)), .second] [(.long (((v_rm6_11 F oo) * (16 : Int64)) + ((F (oo + 3)).toInt64)))])) (fun t k => XS.ladd X0.here hx rfl (hb hby d6_171) rfl k) ?_
  refine go _ (s₁.setTop (mkF m 173 #[.val (.ref a1), .val (.int p1), .val (.long (v_rm6_12 F oo)), .second] [])) (fun t k => XS.lstoreN X0.here hx rfl (hb hby d6_172) rfl (l' := #[.val (.ref a1), .val (.int p1), .val (.long (v_rm6_12 F oo)), .second]) rfl k) ?_
  refine go _ (s₁.setTop (mkF m 174 #[.val (.ref a1), .val (.int p1), .val (.long (v_rm6_12 F oo)), .second] [(.long (v_rm6_12 F oo))])) (fun t k => XS.lloadN X0.here hx rfl (hb hby d6_173) rfl k) ?_
  refine go _ (s₁.setTop (mkF m 177 #[.val (.ref a1), .val (.int p1), .val (.long (v_rm6_12 F oo)), .second] [(.long (16 : Int64)), (.long (v_rm6_12 F oo))])) (X0.ldc2Long hx hown (mvT hZ (hw _ (List.mem_of_getElem? (i := 25) rfl))) (g := (mkF m 174 #[.val (.ref a1), .val (.int p1), .val (.long (v_rm6_12 F oo)), .second] [(.long (v_rm6_12 F oo))])) rfl (hb hby d6_174)) ?_
  refine go _ (s₁.setTop (mkF m 178 #[.val (.ref a1), .val (.int p1), .val (.long (v_rm6_12 F oo)), .second] [(.long ((v_rm6_12 F oo) * (16 : Int64)))])) (fun t k => XS.lmul X0.here hx rfl (hb hby d6_177) rfl k) ?_
  refine go _ (s₁.setTop (mkF m 179 #[.val (.ref a1), .val (.int p1), .val (.long (v_rm6_12 F oo)), .second] [(.ref a1), (.long ((v_rm6_12 F oo) * (16 : Int64)))])) (fun t k => XS.aloadN X0.here hx rfl (hb hby d6_178) rfl rfl k) ?_
  refine go _ (s₁.setTop (mkF m 180 #[.val (.ref a1), .val (.int p1), .val (.long (v_rm6_12 F oo)), .second] [(.int p1), (.ref a1), (.long ((v_rm6_12 F oo) * (16 : Int64)))])) (fun t k => XS.iloadN X0.here hx rfl (hb hby d6_179) rfl k) ?_
  refine go _ (s₁.setTop (mkF m 181 #[.val (.ref a1), .val (.int p1), .val (.long (v_rm6_12 F oo)), .second] [(.int (2 : Int32)), (.int p1), (.ref a1), (.long ((v_rm6_12 F oo) * (16 : Int64)))])) (fun t k => XS.iconst X0.here hx rfl (hb hby d6_180) k) ?_
  refine go _ (s₁.setTop (mkF m 182 #[.val (.ref a1), .val (.int p1), .val (.long (v_rm6_12 F oo)), .second] [(.int (p1 + (2 : Int32))), (.ref a1), (.long ((v_rm6_12 F oo) * (16 : Int64)))])) (fun t k => XS.iadd X0.here hx rfl (hb hby d6_181) rfl k) ?_
  refine go _ (s₁.setTop (mkF m 183 #[.val (.ref a1), .val (.int p1), .val (.long (v_rm6_12 F oo)), .second] [(.int (F (oo + 2))), (.long ((v_rm6_12 F oo) * (16 : Int64)))])) (own_ldB X0 hx hZ e0 A0 (i := (oo + 2)) hk2 (own_inb hi (k := 2) (by decide)) (g := (mkF m 182 #[.val (.ref a1), .val (.int p1), .val (.long (v_rm6_12 F oo)), .second] [(.int (p1 + (2 : Int32))), (.ref a1), (.long ((v_rm6_12 F oo) * (16 : Int64)))])) rfl rfl (hb hby d6_182) (v := (.int (F (oo + 2)))) rfl) ?_
  refine go _ (s₁.setTop (mkF m 184 #[.val (.ref a1), .val (.int p1), .val (.long (v_rm6_12 F oo)), .second] [(.long ((F (oo + 2)).toInt64)), (.long ((v_rm6_12 F oo) * (16 : Int64)))])) (fun t k => XS.i2l X0.here hx rfl (hb hby d6_183) rfl k) ?_
  refine go _ (s₁.setTop (mkF m 185 #[.val (.ref a1), .val (.int p1), .val (.long (v_rm6_12 F oo)), .second] [(.long (((v_rm6_12 F oo) * (16 : Int64)) + ((F (oo + 2)).toInt64)))])) (fun t k => XS.ladd X0.here hx rfl (hb hby d6_184) rfl k) ?_
  refine go _ (s₁.setTop (mkF m 186 #[.val (.ref a1), .val (.int p1), .val (.long (v_rm6_13 F oo)), .second] [])) (fun t k => XS.lstoreN X0.here hx rfl (hb hby d6_185) rfl (l' := #[.val (.ref a1), .val (.int p1), .val (.long (v_rm6_13 F oo)), .second]) rfl k) ?_
  refine go _ (s₁.setTop (mkF m 187 #[.val (.ref a1), .val (.int p1), .val (.long (v_rm6_13 F oo)), .second] [(.long (v_rm6_13 F oo))])) (fun t k => XS.lloadN X0.here hx rfl (hb hby d6_186) rfl k) ?_
  refine go _ (s₁.setTop (mkF m 190 #[.val (.ref a1), .val (.int p1), .val (.long (v_rm6_13 F oo)), .second] [(.long (16 : Int64)), (.long (v_rm6_13 F oo))])) (X0.ldc2Long hx hown (mvT hZ (hw _ (List.mem_of_getElem? (i := 25) rfl))) (g := (mkF m 187 #[.val (.ref a1), .val (.int p1), .val (.long (v_rm6_13 F oo)), .second] [(.long (v_rm6_13 F oo))])) rfl (hb hby d6_187)) ?_
  refine go _ (s₁.setTop (mkF m 191 #[.val (.ref a1), .val (.int p1), .val (.long (v_rm6_13 F oo)), .second] [(.long ((v_rm6_13 F oo) * (16 : Int64)))])) (fun t k => XS.lmul X0.here hx rfl (hb hby d6_190) rfl k) ?_
  refine go _ (s₁.setTop (mkF m 192 #[.val (.ref a1), .val (.int p1), .val (.long (v_rm6_13 F oo)), .second] [(.ref a1), (.long ((v_rm6_13 F oo) * (16 : Int64)))])) (fun t k => XS.aloadN X0.here hx rfl (hb hby d6_191) rfl rfl k) ?_
  refine go _ (s₁.setTop (mkF m 193 #[.val (.ref a1), .val (.int p1), .val (.long (v_rm6_13 F oo)), .second] [(.int p1), (.ref a1), (.long ((v_rm6_13 F oo) * (16 : Int64)))])) (fun t k => XS.iloadN X0.here hx rfl (hb hby d6_192) rfl k) ?_
  refine go _ (s₁.setTop (mkF m 194 #[.val (.ref a1), .val (.int p1), .val (.long (v_rm6_13 F oo)), .second] [(.int (1 : Int32)), (.int p1), (.ref a1), (.long ((v_rm6_13 F oo) * (16 : Int64)))])) (fun t k => XS.iconst X0.here hx rfl (hb hby d6_193) k) ?_
  refine go _ (s₁.setTop (mkF m 195 #[.val (.ref a1), .val (.int p1), .val (.long (v_rm6_13 F oo)), .second] [(.int (p1 + (1 : Int32))), (.ref a1), (.long ((v_rm6_13 F oo) * (16 : Int64)))])) (fun t k => XS.iadd X0.here hx rfl (hb hby d6_194) rfl k) ?_
  refine go _ (s₁.setTop (mkF m 196 #[.val (.ref a1), .val (.int p1), .val (.long (v_rm6_13 F oo)), .second] [(.int (F (oo + 1))), (.long ((v_rm6_13 F oo) * (16 : Int64)))])) (own_ldB X0 hx hZ e0 A0 (i := (oo + 1)) hk1 (own_inb hi (k := 1) (by decide)) (g := (mkF m 195 #[.val (.ref a1), .val (.int p1), .val (.long (v_rm6_13 F oo)), .second] [(.int (p1 + (1 : Int32))), (.ref a1), (.long ((v_rm6_13 F oo) * (16 : Int64)))])) rfl rfl (hb hby d6_195) (v := (.int (F (oo + 1)))) rfl) ?_
  refine go _ (s₁.setTop (mkF m 197 #[.val (.ref a1), .val (.int p1), .val (.long (v_rm6_13 F oo)), .second] [(.long ((F (oo + 1)).toInt64)), (.long ((v_rm6_13 F oo) * (16 : Int64)))])) (fun t k => XS.i2l X0.here hx rfl (hb hby d6_196) rfl k) ?_
  refine go _ (s₁.setTop (mkF m 198 #[.val (.ref a1), .val (.int p1), .val (.long (v_rm6_13 F oo)), .second] [(.long (((v_rm6_13 F oo) * (16 : Int64)) + ((F (oo + 1)).toInt64)))])) (fun t k => XS.ladd X0.here hx rfl (hb hby d6_197) rfl k) ?_
  refine go _ (s₁.setTop (mkF m 199 #[.val (.ref a1), .val (.int p1), .val (.long (v_rm6_14 F oo)), .second] [])) (fun t k => XS.lstoreN X0.here hx rfl (hb hby d6_198) rfl (l' := #[.val (.ref a1), .val (.int p1), .val (.long (v_rm6_14 F oo)), .second]) rfl k) ?_
  refine go _ (s₁.setTop (mkF m 200 #[.val (.ref a1), .val (.int p1), .val (.long (v_rm6_14 F oo)), .second] [(.long (v_rm6_14 F oo))])) (fun t k => XS.lloadN X0.here hx rfl (hb hby d6_199) rfl k) ?_
  refine go _ (s₁.setTop (mkF m 203 #[.val (.ref a1), .val (.int p1), .val (.long (v_rm6_14 F oo)), .second] [(.long (16 : Int64)), (.long (v_rm6_14 F oo))])) (X0.ldc2Long hx hown (mvT hZ (hw _ (List.mem_of_getElem? (i := 25) rfl))) (g := (mkF m 200 #[.val (.ref a1), .val (.int p1), .val (.long (v_rm6_14 F oo)), .second] [(.long (v_rm6_14 F oo))])) rfl (hb hby d6_200)) ?_
  refine go _ (s₁.setTop (mkF m 204 #[.val (.ref a1), .val (.int p1), .val (.long (v_rm6_14 F oo)), .second] [(.long ((v_rm6_14 F oo) * (16 : Int64)))])) (fun t k => XS.lmul X0.here hx rfl (hb hby d6_203) rfl k) ?_
  refine go _ (s₁.setTop (mkF m 205 #[.val (.ref a1), .val (.int p1), .val (.long (v_rm6_14 F oo)), .second] [(.ref a1), (.long ((v_rm6_14 F oo) * (16 : Int64)))])) (fun t k => XS.aloadN X0.here hx rfl (hb hby d6_204) rfl rfl k) ?_
  refine go _ (s₁.setTop (mkF m 206 #[.val (.ref a1), .val (.int p1), .val (.long (v_rm6_14 F oo)), .second] [(.int p1), (.ref a1), (.long ((v_rm6_14 F oo) * (16 : Int64)))])) (fun t k => XS.iloadN X0.here hx rfl (hb hby d6_205) rfl k) ?_
  refine go _ (s₁.setTop (mkF m 207 #[.val (.ref a1), .val (.int p1), .val (.long (v_rm6_14 F oo)), .second] [(.int (F oo)), (.long ((v_rm6_14 F oo) * (16 : Int64)))])) (own_ldB X0 hx hZ e0 A0 (i := oo) hk0 (own_inb hi (k := 0) (by decide)) (g := (mkF m 206 #[.val (.ref a1), .val (.int p1), .val (.long (v_rm6_14 F oo)), .second] [(.int p1), (.ref a1), (.long ((v_rm6_14 F oo) * (16 : Int64)))])) rfl rfl (hb hby d6_206) (v := (.int (F oo))) rfl) ?_
  refine go _ (s₁.setTop (mkF m 208 #[.val (.ref a1), .val (.int p1), .val (.long (v_rm6_14 F oo)), .second] [(.long ((F oo).toInt64)), (.long ((v_rm6_14 F oo) * (16 : Int64)))])) (fun t k => XS.i2l X0.here hx rfl (hb hby d6_207) rfl k) ?_
  refine go _ (s₁.setTop (mkF m 209 #[.val (.ref a1), .val (.int p1), .val (.long (v_rm6_14 F oo)), .second] [(.long (((v_rm6_14 F oo) * (16 : Int64)) + ((F oo).toInt64)))])) (fun t k => XS.ladd X0.here hx rfl (hb hby d6_208) rfl k) ?_
  refine go _ (s₁.setTop (mkF m 210 #[.val (.ref a1), .val (.int p1), .val (.long (v_rm6_15 F oo)), .second] [])) (fun t k => XS.lstoreN X0.here hx rfl (hb hby d6_209) rfl (l' := #[.val (.ref a1), .val (.int p1), .val (.long (v_rm6_15 F oo)), .second]) rfl k) ?_
  refine go _ (s₁.setTop (mkF m 211 #[.val (.ref a1), .val (.int p1), .val (.long (v_rm6_15 F oo)), .second] [(.long (v_rm6_15 F oo))])) (fun t k => XS.lloadN X0.here hx rfl (hb hby d6_210) rfl k) ?_
  exact fin (some (.long (v_rm6_15 F oo))) X0 (by decide) (by decide) (fun q => by cases q) (show Q_rm6 Z a1 p1 F oo h0 n0 _ s₁.heap _ from (by rw [e0]; exact ⟨rfl, N0, rfl⟩)) (fun fs hr => retJ X0 hx hret (hb hby d6_211) hr)
theorem ef_rm0 (m : MethodId) (q1 : Int64) (q2 : Int64) (q3 : Int64) (q4 : Int64) : entryFrame m #[(.long q1), (.long q2), (.long q3), (.long q4)] maxLocals = mkF m 0 #[.val (.long q1), .second, .val (.long q2), .second, .val (.long q3), .second, .val (.long q4), .second, .unset, .unset, .unset, .unset, .unset, .unset, .unset, .unset, .unset, .unset, .unset, .unset, .unset, .unset, .unset, .unset] [] := by first | (simp [entryFrame, mkF, argsToLocals, Value.category, maxLocals]; done) | rfl
def v_rm0_0 (q4 : Int64) : Int64 := (q4 &&& (2305843009213693951 : Int64))
def v_rm0_1 (q2 : Int64) (q1 : Int64) : Int64 := (f_rm5 q2 (f_rm5 q1 (0 : Int64)))
def v_rm0_2 (q4 : Int64) (q3 : Int64) (q2 : Int64) (q1 : Int64) : Int64 := (f_rm5 (v_rm0_0 q4) (f_rm5 q3 (v_rm0_1 q2 q1)))
def own_hor (d : Nat → Int) : Int := (((((((((((((((d 15) * 16 + d 14) * 16 + d 13) * 16 + d 12) * 16 + d 11) * 16 + d 10) * 16 + d 9) * 16 + d 8) * 16 + d 7) * 16 + d 6) * 16 + d 5) * 16 + d 4) * 16 + d 3) * 16 + d 2) * 16 + d 1) * 16 + d 0
theorem own_horc {d d' : Nat → Int} (h : ∀ t, t < 16 → d t = d' t) : own_hor d = own_hor d' := by
  unfold own_hor
  rw [h 0 (by decide), h 1 (by decide), h 2 (by decide), h 3 (by decide), h 4 (by decide), h 5 (by decide), h 6 (by decide), h 7 (by decide), h 8 (by decide), h 9 (by decide), h 10 (by decide), h 11 (by decide), h 12 (by decide), h 13 (by decide), h 14 (by decide), h 15 (by decide)]
theorem own_hs (x : Int64) (d : Int32) (H : Int) (h : (x.toInt - H) % 18446744073709551616 = 0) : ((x * (16 : Int64) + d.toInt64).toInt - (H * 16 + d.toInt)) % 18446744073709551616 = 0 := by
  have m := c_lmul x 16
  have s := c_ladd (x * 16) d.toInt64
  have i := c_i2l d
  rw [show (16 : Int64).toInt = 16 from by decide] at m
  rw [i] at s
  generalize (x * 16 + d.toInt64).toInt = A at *
  generalize (x * 16).toInt = B at *
  omega
theorem own_hq (F : Nat → Int32) (o : Nat) : ((own_h F o).toInt - own_hor (fun t => (F (o + t)).toInt)) % 18446744073709551616 = 0 := by
  have b0 : ((v_rm6_0 F o).toInt - (F (o + 15)).toInt) % 18446744073709551616 = 0 := by
    have e : (v_rm6_0 F o).toInt = (F (o + 15)).toInt := c_i2l _
    rw [e]; omega
  have b1 := own_hs (v_rm6_0 F o) (F (o + 14)) _ b0
  have b2 := own_hs (v_rm6_1 F o) (F (o + 13)) _ b1
  have b3 := own_hs (v_rm6_2 F o) (F (o + 12)) _ b2
  have b4 := own_hs (v_rm6_3 F o) (F (o + 11)) _ b3
  have b5 := own_hs (v_rm6_4 F o) (F (o + 10)) _ b4
  have b6 := own_hs (v_rm6_5 F o) (F (o + 9)) _ b5
  have b7 := own_hs (v_rm6_6 F o) (F (o + 8)) _ b6
  have b8 := own_hs (v_rm6_7 F o) (F (o + 7)) _ b7
  have b9 := own_hs (v_rm6_8 F o) (F (o + 6)) _ b8
  have b10 := own_hs (v_rm6_9 F o) (F (o + 5)) _ b9
  have b11 := own_hs (v_rm6_10 F o) (F (o + 4)) _ b10
  have b12 := own_hs (v_rm6_11 F o) (F (o + 3)) _ b11
  have b13 := own_hs (v_rm6_12 F o) (F (o + 2)) _ b12
  have b14 := own_hs (v_rm6_13 F o) (F (o + 1)) _ b13
  have b15 := own_hs (v_rm6_14 F o) (F (o + 0)) _ b14
  exact b15
theorem own_chunk {n : Nat → Int} (hn : ∀ j, 0 ≤ n j ∧ n j ≤ 15) (o : Nat) (U : Nat → Int) (hU : ∀ t, t < 16 → U t = 16 * U (t + 1) + n (o + t)) (h16 : U 16 = 0) : own_hor (fun t => own_dg n (o + t)) = U 0 + own_k n o - 18446744073709551616 * own_k n (o + 16) ∧ -9838263505978427528 ≤ own_hor (fun t => own_dg n (o + t)) ∧ own_hor (fun t => own_dg n (o + t)) ≤ 8608480567731124087 := by
  have u0 := hU 0 (by decide)
  have u1 := hU 1 (by decide)
  have u2 := hU 2 (by decide)
  have u3 := hU 3 (by decide)
  have u4 := hU 4 (by decide)
  have u5 := hU 5 (by decide)
  have u6 := hU 6 (by decide)
  have u7 := hU 7 (by decide)
  have u8 := hU 8 (by decide)
  have u9 := hU 9 (by decide)
  have u10 := hU 10 (by decide)
  have u11 := hU 11 (by decide)
  have u12 := hU 12 (by decide)
  have u13 := hU 13 (by decide)
  have u14 := hU 14 (by decide)
  have u15 := hU 15 (by decide)
  have d0 : own_dg n (o + 0) = n (o + 0) + own_k n (o + 0) - 16 * own_k n (o + 1) := rfl
  have r0 := own_dgr hn (o + 0)
  have d1 : own_dg n (o + 1) = n (o + 1) + own_k n (o + 1) - 16 * own_k n (o + 2) := rfl
  have r1 := own_dgr hn (o + 1)
  have d2 : own_dg n (o + 2) = n (o + 2) + own_k n (o + 2) - 16 * own_k n (o + 3) := rfl
  have r2 := own_dgr hn (o + 2)
  have d3 : own_dg n (o + 3) = n (o + 3) + own_k n (o + 3) - 16 * own_k n (o + 4) := rfl
  have r3 := own_dgr hn (o + 3)
  have d4 : own_dg n (o + 4) = n (o + 4) + own_k n (o + 4) - 16 * own_k n (o + 5) := rfl
  have r4 := own_dgr hn (o + 4)
  have d5 : own_dg n (o + 5) = n (o + 5) + own_k n (o + 5) - 16 * own_k n (o + 6) := rfl
  have r5 := own_dgr hn (o + 5)
  have d6 : own_dg n (o + 6) = n (o + 6) + own_k n (o + 6) - 16 * own_k n (o + 7) := rfl
  have r6 := own_dgr hn (o + 6)
  have d7 : own_dg n (o + 7) = n (o + 7) + own_k n (o + 7) - 16 * own_k n (o + 8) := rfl
  have r7 := own_dgr hn (o + 7)
  have d8 : own_dg n (o + 8) = n (o + 8) + own_k n (o + 8) - 16 * own_k n (o + 9) := rfl
  have r8 := own_dgr hn (o + 8)
  have d9 : own_dg n (o + 9) = n (o + 9) + own_k n (o + 9) - 16 * own_k n (o + 10) := rfl
  have r9 := own_dgr hn (o + 9)
  have d10 : own_dg n (o + 10) = n (o + 10) + own_k n (o + 10) - 16 * own_k n (o + 11) := rfl
  have r10 := own_dgr hn (o + 10)
  have d11 : own_dg n (o + 11) = n (o + 11) + own_k n (o + 11) - 16 * own_k n (o + 12) := rfl
  have r11 := own_dgr hn (o + 11)
  have d12 : own_dg n (o + 12) = n (o + 12) + own_k n (o + 12) - 16 * own_k n (o + 13) := rfl
  have r12 := own_dgr hn (o + 12)
  have d13 : own_dg n (o + 13) = n (o + 13) + own_k n (o + 13) - 16 * own_k n (o + 14) := rfl
  have r13 := own_dgr hn (o + 13)
  have d14 : own_dg n (o + 14) = n (o + 14) + own_k n (o + 14) - 16 * own_k n (o + 15) := rfl
  have r14 := own_dgr hn (o + 14)
  have d15 : own_dg n (o + 15) = n (o + 15) + own_k n (o + 15) - 16 * own_k n (o + 16) := rfl
  have r15 := own_dgr hn (o + 15)
  unfold own_hor
  dsimp only
  generalize own_dg n (o + 0) = D0 at *
  generalize own_dg n (o + 1) = D1 at *
  generalize own_dg n (o + 2) = D2 at *
  generalize own_dg n (o + 3) = D3 at *
  generalize own_dg n (o + 4) = D4 at *
  generalize own_dg n (o + 5) = D5 at *
  generalize own_dg n (o + 6) = D6 at *
  generalize own_dg n (o + 7) = D7 at *
  generalize own_dg n (o + 8) = D8 at *
  generalize own_dg n (o + 9) = D9 at *
  generalize own_dg n (o + 10) = D10 at *
  generalize own_dg n (o + 11) = D11 at *
  generalize own_dg n (o + 12) = D12 at *
  generalize own_dg n (o + 13) = D13 at *
  generalize own_dg n (o + 14) = D14 at *
  generalize own_dg n (o + 15) = D15 at *
  generalize n (o + 0) = N0 at *
  generalize n (o + 1) = N1 at *
  generalize n (o + 2) = N2 at *
  generalize n (o + 3) = N3 at *
  generalize n (o + 4) = N4 at *
  generalize n (o + 5) = N5 at *
  generalize n (o + 6) = N6 at *
  generalize n (o + 7) = N7 at *
  generalize n (o + 8) = N8 at *
  generalize n (o + 9) = N9 at *
  generalize n (o + 10) = N10 at *
  generalize n (o + 11) = N11 at *
  generalize n (o + 12) = N12 at *
  generalize n (o + 13) = N13 at *
  generalize n (o + 14) = N14 at *
  generalize n (o + 15) = N15 at *
  have hk0 : own_k n (o + 0) = own_k n o := rfl
  rw [hk0] at d0
  generalize own_k n o = K0 at *
  generalize hk1 : own_k n (o + 1) = K1 at *
  generalize hk2 : own_k n (o + 2) = K2 at *
  generalize hk3 : own_k n (o + 3) = K3 at *
  generalize hk4 : own_k n (o + 4) = K4 at *
  generalize hk5 : own_k n (o + 5) = K5 at *
  generalize hk6 : own_k n (o + 6) = K6 at *
  generalize hk7 : own_k n (o + 7) = K7 at *
  generalize hk8 : own_k n (o + 8) = K8 at *
  generalize hk9 : own_k n (o + 9) = K9 at *
  generalize hk10 : own_k n (o + 10) = K10 at *
  generalize hk11 : own_k n (o + 11) = K11 at *
  generalize hk12 : own_k n (o + 12) = K12 at *
  generalize hk13 : own_k n (o + 13) = K13 at *
  generalize hk14 : own_k n (o + 14) = K14 at *
  generalize hk15 : own_k n (o + 15) = K15 at *
  generalize hk16 : own_k n (o + 16) = K16 at *
  simp only [Nat.reduceAdd] at u0 u1 u2 u3 u4 u5 u6 u7 u8 u9 u10 u11 u12 u13 u14 u15
  generalize U 0 = U0 at *
  generalize U 1 = U1 at *
  generalize U 2 = U2 at *
  generalize U 3 = U3 at *
  generalize U 4 = U4 at *
  generalize U 5 = U5 at *
  generalize U 6 = U6 at *
  generalize U 7 = U7 at *
  generalize U 8 = U8 at *
  generalize U 9 = U9 at *
  generalize U 10 = U10 at *
  generalize U 11 = U11 at *
  generalize U 12 = U12 at *
  generalize U 13 = U13 at *
  generalize U 14 = U14 at *
  generalize U 15 = U15 at *
  generalize U 16 = U16 at *
  have p15 : D15 = U15 + K15 - 16 * K16 := by omega
  have q15 : -8 ≤ D15 ∧ D15 ≤ 7 := by omega
  generalize hP15 : D15 = P15 at *
  have p14 : P15 * 16 + D14 = U14 + K14 - 256 * K16 := by omega
  have q14 : -136 ≤ P15 * 16 + D14 ∧ P15 * 16 + D14 ≤ 119 := by omega
  clear p15 q15 d14 r14 u14
  generalize P15 * 16 + D14 = P14 at *
  have p13 : P14 * 16 + D13 = U13 + K13 - 4096 * K16 := by omega
  have q13 : -2184 ≤ P14 * 16 + D13 ∧ P14 * 16 + D13 ≤ 1911 := by omega
  clear p14 q14 d13 r13 u13
  generalize P14 * 16 + D13 = P13 at *
  have p12 : P13 * 16 + D12 = U12 + K12 - 65536 * K16 := by omega
  have q12 : -34952 ≤ P13 * 16 + D12 ∧ P13 * 16 + D12 ≤ 30583 := by omega
  clear p13 q13 d12 r12 u12
  generalize P13 * 16 + D12 = P12 at *
  have p11 : P12 * 16 + D11 = U11 + K11 - 1048576 * K16 := by omega
  have q11 : -559240 ≤ P12 * 16 + D11 ∧ P12 * 16 + D11 ≤ 489335 := by omega
  clear p12 q12 d11 r11 u11
  generalize P12 * 16 + D11 = P11 at *
  have p10 : P11 * 16 + D10 = U10 + K10 - 16777216 * K16 := by omega
  have q10 : -8947848 ≤ P11 * 16 + D10 ∧ P11 * 16 + D10 ≤ 7829367 := by omega
  clear p11 q11 d10 r10 u10
  generalize P11 * 16 + D10 = P10 at *
  have p9 : P10 * 16 + D9 = U9 + K9 - 268435456 * K16 := by omega
  have q9 : -143165576 ≤ P10 * 16 + D9 ∧ P10 * 16 + D9 ≤ 125269879 := by omega
  clear p10 q10 d9 r9 u9
  generalize P10 * 16 + D9 = P9 at *
  have p8 : P9 * 16 + D8 = U8 + K8 - 4294967296 * K16 := by omega
  have q8 : -2290649224 ≤ P9 * 16 + D8 ∧ P9 * 16 + D8 ≤ 2004318071 := by omega
  clear p9 q9 d8 r8 u8
  generalize P9 * 16 + D8 = P8 at *
  have p7 : P8 * 16 + D7 = U7 + K7 - 68719476736 * K16 := by omega
  have q7 : -36650387592 ≤ P8 * 16 + D7 ∧ P8 * 16 + D7 ≤ 32069089143 := by omega
  clear p8 q8 d7 r7 u7
  generalize P8 * 16 + D7 = P7 at *
  have p6 : P7 * 16 + D6 = U6 + K6 - 1099511627776 * K16 := by omega
  have q6 : -586406201480 ≤ P7 * 16 + D6 ∧ P7 * 16 + D6 ≤ 513105426295 := by omega
  clear p7 q7 d6 r6 u6
  generalize P7 * 16 + D6 = P6 at *
  have p5 : P6 * 16 + D5 = U5 + K5 - 17592186044416 * K16 := by omega
  have q5 : -9382499223688 ≤ P6 * 16 + D5 ∧ P6 * 16 + D5 ≤ 8209686820727 := by omega
  clear p6 q6 d5 r5 u5
  generalize P6 * 16 + D5 = P5 at *
  have p4 : P5 * 16 + D4 = U4 + K4 - 281474976710656 * K16 := by omega
  have q4 : -150119987579016 ≤ P5 * 16 + D4 ∧ P5 * 16 + D4 ≤ 131354989131639 := by omega
  clear p5 q5 d4 r4 u4
  generalize P5 * 16 + D4 = P4 at *
  have p3 : P4 * 16 + D3 = U3 + K3 - 4503599627370496 * K16 := by omega
  have q3 : -2401919801264264 ≤ P4 * 16 + D3 ∧ P4 * 16 + D3 ≤ 2101679826106231 := by omega
  clear p4 q4 d3 r3 u3
  generalize P4 * 16 + D3 = P3 at *
  have p2 : P3 * 16 + D2 = U2 + K2 - 72057594037927936 * K16 := by omega
  have q2 : -38430716820228232 ≤ P3 * 16 + D2 ∧ P3 * 16 + D2 ≤ 33626877217699703 := by omega
  clear p3 q3 d2 r2 u2
  generalize P3 * 16 + D2 = P2 at *
  have p1 : P2 * 16 + D1 = U1 + K1 - 1152921504606846976 * K16 := by omega
  have q1 : -614891469123651720 ≤ P2 * 16 + D1 ∧ P2 * 16 + D1 ≤ 538030035483195255 := by omega
  clear p2 q2 d1 r1 u1
  generalize P2 * 16 + D1 = P1 at *
  have p0 : P1 * 16 + D0 = U0 + K0 - 18446744073709551616 * K16 := by omega
  have q0 : -9838263505978427528 ≤ P1 * 16 + D0 ∧ P1 * 16 + D0 ≤ 8608480567731124087 := by omega
  clear p1 q1 d0 r0 u0
  generalize P1 * 16 + D0 = P0 at *
  exact ⟨p0, q0.1, q0.2⟩
theorem own_chunk3 {n : Nat → Int} (hn : ∀ j, 0 ≤ n j ∧ n j ≤ 15) (U : Nat → Int) (hU : ∀ t, t < 16 → U t = 16 * U (t + 1) + n (48 + t)) (h16 : U 16 = 0) : own_hor (fun t => own_fin n (48 + t)) = U 0 + own_k n 48 := by
  have u0 := hU 0 (by decide)
  have u1 := hU 1 (by decide)
  have u2 := hU 2 (by decide)
  have u3 := hU 3 (by decide)
  have u4 := hU 4 (by decide)
  have u5 := hU 5 (by decide)
  have u6 := hU 6 (by decide)
  have u7 := hU 7 (by decide)
  have u8 := hU 8 (by decide)
  have u9 := hU 9 (by decide)
  have u10 := hU 10 (by decide)
  have u11 := hU 11 (by decide)
  have u12 := hU 12 (by decide)
  have u13 := hU 13 (by decide)
  have u14 := hU 14 (by decide)
  have u15 := hU 15 (by decide)
  have d0 : own_fin n (48 + 0) = n (48 + 0) + own_k n (48 + 0) - 16 * own_k n (48 + 1) := rfl
  have d1 : own_fin n (48 + 1) = n (48 + 1) + own_k n (48 + 1) - 16 * own_k n (48 + 2) := rfl
  have d2 : own_fin n (48 + 2) = n (48 + 2) + own_k n (48 + 2) - 16 * own_k n (48 + 3) := rfl
  have d3 : own_fin n (48 + 3) = n (48 + 3) + own_k n (48 + 3) - 16 * own_k n (48 + 4) := rfl
  have d4 : own_fin n (48 + 4) = n (48 + 4) + own_k n (48 + 4) - 16 * own_k n (48 + 5) := rfl
  have d5 : own_fin n (48 + 5) = n (48 + 5) + own_k n (48 + 5) - 16 * own_k n (48 + 6) := rfl
  have d6 : own_fin n (48 + 6) = n (48 + 6) + own_k n (48 + 6) - 16 * own_k n (48 + 7) := rfl
  have d7 : own_fin n (48 + 7) = n (48 + 7) + own_k n (48 + 7) - 16 * own_k n (48 + 8) := rfl
  have d8 : own_fin n (48 + 8) = n (48 + 8) + own_k n (48 + 8) - 16 * own_k n (48 + 9) := rfl
  have d9 : own_fin n (48 + 9) = n (48 + 9) + own_k n (48 + 9) - 16 * own_k n (48 + 10) := rfl
  have d10 : own_fin n (48 + 10) = n (48 + 10) + own_k n (48 + 10) - 16 * own_k n (48 + 11) := rfl
  have d11 : own_fin n (48 + 11) = n (48 + 11) + own_k n (48 + 11) - 16 * own_k n (48 + 12) := rfl
  have d12 : own_fin n (48 + 12) = n (48 + 12) + own_k n (48 + 12) - 16 * own_k n (48 + 13) := rfl
  have d13 : own_fin n (48 + 13) = n (48 + 13) + own_k n (48 + 13) - 16 * own_k n (48 + 14) := rfl
  have d14 : own_fin n (48 + 14) = n (48 + 14) + own_k n (48 + 14) - 16 * own_k n (48 + 15) := rfl
  have d15 : own_fin n (48 + 15) = n (48 + 15) + own_k n (48 + 15) := rfl
  unfold own_hor
  dsimp only
  generalize own_fin n (48 + 0) = D0 at *
  generalize own_fin n (48 + 1) = D1 at *
  generalize own_fin n (48 + 2) = D2 at *
  generalize own_fin n (48 + 3) = D3 at *
  generalize own_fin n (48 + 4) = D4 at *
  generalize own_fin n (48 + 5) = D5 at *
  generalize own_fin n (48 + 6) = D6 at *
  generalize own_fin n (48 + 7) = D7 at *
  generalize own_fin n (48 + 8) = D8 at *
  generalize own_fin n (48 + 9) = D9 at *
  generalize own_fin n (48 + 10) = D10 at *
  generalize own_fin n (48 + 11) = D11 at *
  generalize own_fin n (48 + 12) = D12 at *
  generalize own_fin n (48 + 13) = D13 at *
  generalize own_fin n (48 + 14) = D14 at *
  generalize own_fin n (48 + 15) = D15 at *
  generalize n (48 + 0) = N0 at *
  generalize n (48 + 1) = N1 at *
  generalize n (48 + 2) = N2 at *
  generalize n (48 + 3) = N3 at *
  generalize n (48 + 4) = N4 at *
  generalize n (48 + 5) = N5 at *
  generalize n (48 + 6) = N6 at *
  generalize n (48 + 7) = N7 at *
  generalize n (48 + 8) = N8 at *
  generalize n (48 + 9) = N9 at *
  generalize n (48 + 10) = N10 at *
  generalize n (48 + 11) = N11 at *
  generalize n (48 + 12) = N12 at *
  generalize n (48 + 13) = N13 at *
  generalize n (48 + 14) = N14 at *
  generalize n (48 + 15) = N15 at *
  have hk0 : own_k n (48 + 0) = own_k n 48 := rfl
  rw [hk0] at d0
  generalize own_k n 48 = K0 at *
  generalize hk1 : own_k n (48 + 1) = K1 at *
  generalize hk2 : own_k n (48 + 2) = K2 at *
  generalize hk3 : own_k n (48 + 3) = K3 at *
  generalize hk4 : own_k n (48 + 4) = K4 at *
  generalize hk5 : own_k n (48 + 5) = K5 at *
  generalize hk6 : own_k n (48 + 6) = K6 at *
  generalize hk7 : own_k n (48 + 7) = K7 at *
  generalize hk8 : own_k n (48 + 8) = K8 at *
  generalize hk9 : own_k n (48 + 9) = K9 at *
  generalize hk10 : own_k n (48 + 10) = K10 at *
  generalize hk11 : own_k n (48 + 11) = K11 at *
  generalize hk12 : own_k n (48 + 12) = K12 at *
  generalize hk13 : own_k n (48 + 13) = K13 at *
  generalize hk14 : own_k n (48 + 14) = K14 at *
  generalize hk15 : own_k n (48 + 15) = K15 at *
  simp only [Nat.reduceAdd] at u0 u1 u2 u3 u4 u5 u6 u7 u8 u9 u10 u11 u12 u13 u14 u15
  generalize U 0 = U0 at *
  generalize U 1 = U1 at *
  generalize U 2 = U2 at *
  generalize U 3 = U3 at *
  generalize U 4 = U4 at *
  generalize U 5 = U5 at *
  generalize U 6 = U6 at *
  generalize U 7 = U7 at *
  generalize U 8 = U8 at *
  generalize U 9 = U9 at *
  generalize U 10 = U10 at *
  generalize U 11 = U11 at *
  generalize U 12 = U12 at *
  generalize U 13 = U13 at *
  generalize U 14 = U14 at *
  generalize U 15 = U15 at *
  generalize U 16 = U16 at *
  have p15 : D15 = U15 + K15 := by omega
  generalize hP15 : D15 = P15 at *
  have p14 : P15 * 16 + D14 = U14 + K14 := by omega
  clear p15 d14 u14
  generalize P15 * 16 + D14 = P14 at *
  have p13 : P14 * 16 + D13 = U13 + K13 := by omega
  clear p14 d13 u13
  generalize P14 * 16 + D13 = P13 at *
  have p12 : P13 * 16 + D12 = U12 + K12 := by omega
  clear p13 d12 u12
  generalize P13 * 16 + D12 = P12 at *
  have p11 : P12 * 16 + D11 = U11 + K11 := by omega
  clear p12 d11 u11
  generalize P12 * 16 + D11 = P11 at *
  have p10 : P11 * 16 + D10 = U10 + K10 := by omega
  clear p11 d10 u10
  generalize P11 * 16 + D10 = P10 at *
  have p9 : P10 * 16 + D9 = U9 + K9 := by omega
  clear p10 d9 u9
  generalize P10 * 16 + D9 = P9 at *
  have p8 : P9 * 16 + D8 = U8 + K8 := by omega
  clear p9 d8 u8
  generalize P9 * 16 + D8 = P8 at *
  have p7 : P8 * 16 + D7 = U7 + K7 := by omega
  clear p8 d7 u7
  generalize P8 * 16 + D7 = P7 at *
  have p6 : P7 * 16 + D6 = U6 + K6 := by omega
  clear p7 d6 u6
  generalize P7 * 16 + D6 = P6 at *
  have p5 : P6 * 16 + D5 = U5 + K5 := by omega
  clear p6 d5 u5
  generalize P6 * 16 + D5 = P5 at *
  have p4 : P5 * 16 + D4 = U4 + K4 := by omega
  clear p5 d4 u4
  generalize P5 * 16 + D4 = P4 at *
  have p3 : P4 * 16 + D3 = U3 + K3 := by omega
  clear p4 d3 u3
  generalize P4 * 16 + D3 = P3 at *
  have p2 : P3 * 16 + D2 = U2 + K2 := by omega
  clear p3 d2 u2
  generalize P3 * 16 + D2 = P2 at *
  have p1 : P2 * 16 + D1 = U1 + K1 := by omega
  clear p2 d1 u1
  generalize P2 * 16 + D1 = P1 at *
  have p0 : P1 * 16 + D0 = U0 + K0 := by omega
  clear p1 d0 u0
  generalize P1 * 16 + D0 = P0 at *
  exact p0
theorem own_low8 (x : Int32) : (jb x).toBitVec.toNat % 256 = x.toBitVec.toNat % 256 := by
  have e : (jb x).toBitVec = (x.toBitVec.signExtend 8).signExtend 32 := by simp [jb]
  apply Nat.eq_of_testBit_eq
  intro t
  rw [show (256 : Nat) = 2 ^ 8 from rfl, Nat.testBit_mod_two_pow, Nat.testBit_mod_two_pow, BitVec.testBit_toNat, BitVec.testBit_toNat, e, BitVec.getLsbD_signExtend, BitVec.getLsbD_signExtend]
  by_cases h : t < 8
  · have h1 : t < 32 := by omega
    simp [h, h1]
  · simp [h]
theorem own_low32 (v : Int64) : (v.toInt32).toBitVec.toNat % 256 = v.toBitVec.toNat % 256 := by
  have e : (v.toInt32).toBitVec = v.toBitVec.signExtend 32 := by simp
  rw [e, BitVec.signExtend_eq_setWidth_of_le _ (by decide), BitVec.toNat_setWidth]
  omega
theorem own_vbn (v : Int64) (s : Int32) (k : Nat) (hk : s.toBitVec.toNat % 64 = k) : (jb ((jushrL v s).toInt32)).toBitVec.toNat % 256 = (v.toBitVec.toNat / 2 ^ k) % 256 := by
  rw [own_low8, own_low32, own_bvushrL, hk, BitVec.toNat_ushiftRight, Nat.shiftRight_eq_div_pow]
theorem own_mod256 (x : Int32) : x.toInt % 256 = ((x.toBitVec.toNat % 256 : Nat) : Int) := by
  have a1 : x.toInt = if 2 * x.toBitVec.toNat < 2 ^ 32 then (x.toBitVec.toNat : Int) else (x.toBitVec.toNat : Int) - ((2 ^ 32 : Nat) : Int) := BitVec.toInt_eq_toNat_cond x.toBitVec
  generalize x.toBitVec.toNat = n at *
  split at a1 <;> omega
theorem own_lbm0 (v : Int64) : (own_lb v 0).toInt % 256 = ((v.toBitVec.toNat : Int) / 1) % 256 := by
  rw [own_mod256]
  have h : (own_lb v 0).toBitVec.toNat % 256 = _ := (own_low8 _).trans (own_low32 v)
  rw [h]; omega
theorem own_lbm1 (v : Int64) : (own_lb v 1).toInt % 256 = ((v.toBitVec.toNat : Int) / 256) % 256 := by
  rw [own_mod256]
  have h : (own_lb v 1).toBitVec.toNat % 256 = _ := own_vbn v (8 : Int32) 8 (by decide)
  rw [h]; rfl
theorem own_lbm2 (v : Int64) : (own_lb v 2).toInt % 256 = ((v.toBitVec.toNat : Int) / 65536) % 256 := by
  rw [own_mod256]
  have h : (own_lb v 2).toBitVec.toNat % 256 = _ := own_vbn v (16 : Int32) 16 (by decide)
  rw [h]; rfl
theorem own_lbm3 (v : Int64) : (own_lb v 3).toInt % 256 = ((v.toBitVec.toNat : Int) / 16777216) % 256 := by
  rw [own_mod256]
  have h : (own_lb v 3).toBitVec.toNat % 256 = _ := own_vbn v (24 : Int32) 24 (by decide)
  rw [h]; rfl
theorem own_lbm4 (v : Int64) : (own_lb v 4).toInt % 256 = ((v.toBitVec.toNat : Int) / 4294967296) % 256 := by
  rw [own_mod256]
  have h : (own_lb v 4).toBitVec.toNat % 256 = _ := own_vbn v (32 : Int32) 32 (by decide)
  rw [h]; rfl
theorem own_lbm5 (v : Int64) : (own_lb v 5).toInt % 256 = ((v.toBitVec.toNat : Int) / 1099511627776) % 256 := by
  rw [own_mod256]
  have h : (own_lb v 5).toBitVec.toNat % 256 = _ := own_vbn v (40 : Int32) 40 (by decide)
  rw [h]; rfl
theorem own_lbm6 (v : Int64) : (own_lb v 6).toInt % 256 = ((v.toBitVec.toNat : Int) / 281474976710656) % 256 := by
  rw [own_mod256]
  have h : (own_lb v 6).toBitVec.toNat % 256 = _ := own_vbn v (48 : Int32) 48 (by decide)
  rw [h]; rfl
theorem own_lbm7 (v : Int64) : (own_lb v 7).toInt % 256 = ((v.toBitVec.toNat : Int) / 72057594037927936) % 256 := by
  rw [own_mod256]
  have h : (own_lb v 7).toBitVec.toNat % 256 = _ := own_vbn v (56 : Int32) 56 (by decide)
  rw [h]; rfl
theorem own_dig (S : Nat → Int32) (B : Nat) (v : Int64) (hS : ∀ u, u < 8 → S (B + u) = own_lb v u) (t : Nat) (ht : t < 16) : own_nb S (2 * B + t) = ((v.toBitVec.toNat : Int) / 16 ^ t) % 16 := by
  have c : t = 0 ∨ t = 1 ∨ t = 2 ∨ t = 3 ∨ t = 4 ∨ t = 5 ∨ t = 6 ∨ t = 7 ∨ t = 8 ∨ t = 9 ∨ t = 10 ∨ t = 11 ∨ t = 12 ∨ t = 13 ∨ t = 14 ∨ t = 15 := by omega
  rcases c with rfl | rfl | rfl | rfl | rfl | rfl | rfl | rfl | rfl | rfl | rfl | rfl | rfl | rfl | rfl | rfl
  · unfold own_nb
    rw [if_pos (by omega), show (2 * B + 0) / 2 = B + 0 by omega, hS 0 (by decide)]
    have h := own_lbm0 v
    simp only [Int.reducePow]
    generalize (v.toBitVec.toNat : Int) = W at *
    generalize (own_lb v 0).toInt = X at *
    omega
  · unfold own_nb
    rw [if_neg (by omega), show (2 * B + 1) / 2 = B + 0 by omega, hS 0 (by decide)]
    have h := own_lbm0 v
    simp only [Int.reducePow]
    generalize (v.toBitVec.toNat : Int) = W at *
    generalize (own_lb v 0).toInt = X at *
    omega
  · unfold own_nb
    rw [if_pos (by omega), show (2 * B + 2) / 2 = B + 1 by omega, hS 1 (by decide)]
    have h := own_lbm1 v
    simp only [Int.reducePow]
    generalize (v.toBitVec.toNat : Int) = W at *
    generalize (own_lb v 1).toInt = X at *
    omega
  · unfold own_nb
    rw [if_neg (by omega), show (2 * B + 3) / 2 = B + 1 by omega, hS 1 (by decide)]
    have h := own_lbm1 v
    simp only [Int.reducePow]
    generalize (v.toBitVec.toNat : Int) = W at *
    generalize (own_lb v 1).toInt = X at *
    omega
  · unfold own_nb
    rw [if_pos (by omega), show (2 * B + 4) / 2 = B + 2 by omega, hS 2 (by decide)]
    have h := own_lbm2 v
    simp only [Int.reducePow]
    generalize (v.toBitVec.toNat : Int) = W at *
    generalize (own_lb v 2).toInt = X at *
    omega
  · unfold own_nb
    rw [if_neg (by omega), show (2 * B + 5) / 2 = B + 2 by omega, hS 2 (by decide)]
    have h := own_lbm2 v
    simp only [Int.reducePow]
    generalize (v.toBitVec.toNat : Int) = W at *
    generalize (own_lb v 2).toInt = X at *
    omega
  · unfold own_nb
    rw [if_pos (by omega), show (2 * B + 6) / 2 = B + 3 by omega, hS 3 (by decide)]
    have h := own_lbm3 v
    simp only [Int.reducePow]
    generalize (v.toBitVec.toNat : Int) = W at *
    generalize (own_lb v 3).toInt = X at *
    omega
  · unfold own_nb
    rw [if_neg (by omega), show (2 * B + 7) / 2 = B + 3 by omega, hS 3 (by decide)]
    have h := own_lbm3 v
    simp only [Int.reducePow]
    generalize (v.toBitVec.toNat : Int) = W at *
    generalize (own_lb v 3).toInt = X at *
    omega
  · unfold own_nb
    rw [if_pos (by omega), show (2 * B + 8) / 2 = B + 4 by omega, hS 4 (by decide)]
    have h := own_lbm4 v
    simp only [Int.reducePow]
    generalize (v.toBitVec.toNat : Int) = W at *
    generalize (own_lb v 4).toInt = X at *
    omega
  · unfold own_nb
    rw [if_neg (by omega), show (2 * B + 9) / 2 = B + 4 by omega, hS 4 (by decide)]
    have h := own_lbm4 v
    simp only [Int.reducePow]
    generalize (v.toBitVec.toNat : Int) = W at *
    generalize (own_lb v 4).toInt = X at *
    omega
  · unfold own_nb
    rw [if_pos (by omega), show (2 * B + 10) / 2 = B + 5 by omega, hS 5 (by decide)]
    have h := own_lbm5 v
    simp only [Int.reducePow]
    generalize (v.toBitVec.toNat : Int) = W at *
    generalize (own_lb v 5).toInt = X at *
    omega
  · unfold own_nb
    rw [if_neg (by omega), show (2 * B + 11) / 2 = B + 5 by omega, hS 5 (by decide)]
    have h := own_lbm5 v
    simp only [Int.reducePow]
    generalize (v.toBitVec.toNat : Int) = W at *
    generalize (own_lb v 5).toInt = X at *
    omega
  · unfold own_nb
    rw [if_pos (by omega), show (2 * B + 12) / 2 = B + 6 by omega, hS 6 (by decide)]
    have h := own_lbm6 v
    simp only [Int.reducePow]
    generalize (v.toBitVec.toNat : Int) = W at *
    generalize (own_lb v 6).toInt = X at *
    omega
  · unfold own_nb
    rw [if_neg (by omega), show (2 * B + 13) / 2 = B + 6 by omega, hS 6 (by decide)]
    have h := own_lbm6 v
    simp only [Int.reducePow]
    generalize (v.toBitVec.toNat : Int) = W at *
    generalize (own_lb v 6).toInt = X at *
    omega
  · unfold own_nb
    rw [if_pos (by omega), show (2 * B + 14) / 2 = B + 7 by omega, hS 7 (by decide)]
    have h := own_lbm7 v
    simp only [Int.reducePow]
    generalize (v.toBitVec.toNat : Int) = W at *
    generalize (own_lb v 7).toInt = X at *
    omega
  · unfold own_nb
    rw [if_neg (by omega), show (2 * B + 15) / 2 = B + 7 by omega, hS 7 (by decide)]
    have h := own_lbm7 v
    simp only [Int.reducePow]
    generalize (v.toBitVec.toNat : Int) = W at *
    generalize (own_lb v 7).toInt = X at *
    omega
theorem own_U (V : Int) (t : Nat) : V / 16 ^ t = 16 * (V / 16 ^ (t + 1)) + (V / 16 ^ t) % 16 := by
  rw [Int.pow_succ, ← Int.ediv_ediv_of_nonneg (Int.le_of_lt (Int.pow_pos (by decide)))]
  omega
theorem own_U16 (V : Int) (h0 : 0 ≤ V) (h1 : V < 18446744073709551616) : V / 16 ^ 16 = 0 := by
  simp only [Int.reducePow]
  omega
theorem own_s0 (q1 q2 q3 q4 : Int64) (u : Nat) (hu : u < 8) : (own_put (own_put (own_put (own_put (fun _ => (0 : Int32)) 0 q1) 8 q2) 16 q3) 24 (v_rm0_0 q4)) (0 + u) = own_lb q1 u := by
  have e : ∀ (f : Nat → Int32) (o : Nat) (v : Int64) (j : Nat), own_put f o v j = if o ≤ j ∧ j < o + 8 then own_lb v (j - o) else f j := fun _ _ _ _ => rfl
  rw [e, if_neg (by omega), e, if_neg (by omega), e, if_neg (by omega), e, if_pos (by omega)]
  rw [Nat.add_sub_cancel_left]
theorem own_s1 (q1 q2 q3 q4 : Int64) (u : Nat) (hu : u < 8) : (own_put (own_put (own_put (own_put (fun _ => (0 : Int32)) 0 q1) 8 q2) 16 q3) 24 (v_rm0_0 q4)) (8 + u) = own_lb q2 u := by
  have e : ∀ (f : Nat → Int32) (o : Nat) (v : Int64) (j : Nat), own_put f o v j = if o ≤ j ∧ j < o + 8 then own_lb v (j - o) else f j := fun _ _ _ _ => rfl
  rw [e, if_neg (by omega), e, if_neg (by omega), e, if_pos (by omega)]
  rw [Nat.add_sub_cancel_left]
theorem own_s2 (q1 q2 q3 q4 : Int64) (u : Nat) (hu : u < 8) : (own_put (own_put (own_put (own_put (fun _ => (0 : Int32)) 0 q1) 8 q2) 16 q3) 24 (v_rm0_0 q4)) (16 + u) = own_lb q3 u := by
  have e : ∀ (f : Nat → Int32) (o : Nat) (v : Int64) (j : Nat), own_put f o v j = if o ≤ j ∧ j < o + 8 then own_lb v (j - o) else f j := fun _ _ _ _ => rfl
  rw [e, if_neg (by omega), e, if_pos (by omega)]
  rw [Nat.add_sub_cancel_left]
theorem own_s3 (q1 q2 q3 q4 : Int64) (u : Nat) (hu : u < 8) : (own_put (own_put (own_put (own_put (fun _ => (0 : Int32)) 0 q1) 8 q2) 16 q3) 24 (v_rm0_0 q4)) (24 + u) = own_lb (v_rm0_0 q4) u := by
  have e : ∀ (f : Nat → Int32) (o : Nat) (v : Int64) (j : Nat), own_put f o v j = if o ≤ j ∧ j < o + 8 then own_lb v (j - o) else f j := fun _ _ _ _ => rfl
  rw [e, if_pos (by omega)]
  rw [Nat.add_sub_cancel_left]
theorem own_vi (v : Int64) : (v.toBitVec.toNat : Int) = v.toInt % 18446744073709551616 := by
  have a1 : v.toInt = if 2 * v.toBitVec.toNat < 2 ^ 64 then (v.toBitVec.toNat : Int) else (v.toBitVec.toNat : Int) - ((2 ^ 64 : Nat) : Int) := BitVec.toInt_eq_toNat_cond v.toBitVec
  have b := v.toBitVec.isLt
  generalize v.toBitVec.toNat = n at *
  split at a1 <;> omega
theorem own_xorn (a : Nat) (h : a < 18446744073709551616) : (a ^^^ 9223372036854775808) = if a < 9223372036854775808 then a + 9223372036854775808 else a - 9223372036854775808 := by
  have m : (a ^^^ 9223372036854775808) % 2 ^ 63 = a % 2 ^ 63 := by rw [Nat.xor_mod_two_pow]; simp
  have d : (a ^^^ 9223372036854775808) / 2 ^ 63 = (a / 2 ^ 63) ^^^ 1 := by rw [Nat.xor_div_two_pow]
  have e : (a ^^^ 9223372036854775808) = 2 ^ 63 * ((a ^^^ 9223372036854775808) / 2 ^ 63) + (a ^^^ 9223372036854775808) % 2 ^ 63 := (Nat.div_add_mod _ _).symm
  rw [e, m, d]
  by_cases q : a < 9223372036854775808
  · rw [if_pos q, show a / 2 ^ 63 = 0 by omega, show (0 ^^^ 1 : Nat) = 1 from rfl]; omega
  · rw [if_neg q, show a / 2 ^ 63 = 1 by omega, show (1 ^^^ 1 : Nat) = 0 from rfl]; omega
theorem own_flip (x : Int64) : (x ^^^ (-9223372036854775808 : Int64)).toInt = (x.toBitVec.toNat : Int) - 9223372036854775808 := by
  have b := x.toBitVec.isLt
  have e : (x ^^^ (-9223372036854775808 : Int64)).toBitVec.toNat = x.toBitVec.toNat ^^^ 9223372036854775808 := by
    show (x.toBitVec ^^^ (-9223372036854775808 : Int64).toBitVec).toNat = _
    rw [BitVec.toNat_xor]; rfl
  rw [own_xorn _ b] at e
  have a1 : (x ^^^ (-9223372036854775808 : Int64)).toInt = if 2 * (x ^^^ (-9223372036854775808 : Int64)).toBitVec.toNat < 2 ^ 64 then ((x ^^^ (-9223372036854775808 : Int64)).toBitVec.toNat : Int) else ((x ^^^ (-9223372036854775808 : Int64)).toBitVec.toNat : Int) - ((2 ^ 64 : Nat) : Int) := BitVec.toInt_eq_toNat_cond _
  generalize x.toBitVec.toNat = n at *
  by_cases q : n < 9223372036854775808
  · rw [if_pos q] at e; rw [e] at a1; split at a1 <;> omega
  · rw [if_neg q] at e; rw [e] at a1; split at a1 <;> omega
theorem own_cmp (x : Int64) : ((x ^^^ (-9223372036854775808 : Int64)) < ((8608480567731124088 : Int64) ^^^ (-9223372036854775808 : Int64))) ↔ (x.toBitVec.toNat : Int) < 8608480567731124088 := by
  rw [Int64.lt_iff_toInt_lt, own_flip, own_flip, show (8608480567731124088 : Int64).toBitVec.toNat = 8608480567731124088 from by decide]
  omega
theorem own_cr (q c : Int64) (h0 : 0 ≤ c.toInt) (h1 : c.toInt ≤ 1) : ((q.toBitVec.toNat : Int) + c.toInt < 8608480567731124088 ∧ (f_rm5 q c).toInt = 0) ∨ (8608480567731124088 ≤ (q.toBitVec.toNat : Int) + c.toInt ∧ (f_rm5 q c).toInt = 1) := by
  have z0 : (0 : Int64).toInt = 0 := by decide
  have z1 : (1 : Int64).toInt = 1 := by decide
  have zm : (-1 : Int64).toInt = -1 := by decide
  have v1 := own_vi q
  have v2 := own_vi (q + c)
  have a := c_ladd q c
  have rq := rng64 q
  have ra := rng64 (q + c)
  have cm := own_cmp (q + c)
  unfold f_rm5
  by_cases e0 : c = (0 : Int64)
  · rw [if_pos e0]
    have e0' : c.toInt = 0 := by rw [e0]; decide
    by_cases e1 : ((q + c) ^^^ (-9223372036854775808 : Int64)) < ((8608480567731124088 : Int64) ^^^ (-9223372036854775808 : Int64))
    · rw [if_pos e1]; left; have := cm.mp e1; exact ⟨by omega, z0⟩
    · rw [if_neg e1]; right; have := mt cm.mpr e1; exact ⟨by omega, z1⟩
  · rw [if_neg e0]
    have e0' : c.toInt = 1 := by rw [← Int64.toInt_inj, z0] at e0; omega
    by_cases e2 : q = (-1 : Int64)
    · rw [if_pos e2]; right; have e2' : q.toInt = -1 := by rw [e2]; decide
      exact ⟨by omega, z1⟩
    · rw [if_neg e2]
      have e2' := e2
      rw [← Int64.toInt_inj, zm] at e2'
      by_cases e1 : ((q + c) ^^^ (-9223372036854775808 : Int64)) < ((8608480567731124088 : Int64) ^^^ (-9223372036854775808 : Int64))
      · rw [if_pos e1]; left; have := cm.mp e1; exact ⟨by omega, z0⟩
      · rw [if_neg e1]; right; have := mt cm.mpr e1; exact ⟨by omega, z1⟩
theorem own_lim (q1 q2 q3 q4 : Int64) : 0 ≤ (v_rm0_0 q4).toInt ∧ (v_rm0_0 q4).toInt < 2305843009213693952 := by
  have m := c_maskL q4 2305843009213693951 61 (by decide) (by decide +kernel)
  unfold v_rm0_0
  omega
theorem own_one (S : Nat → Int32) (B : Nat) (v : Int64) (hS : ∀ u, u < 8 → S (B + u) = own_lb v u) (F : Nat → Int32) (c : Int64) (hc : c.toInt = own_k (own_nb S) (2 * B)) (hF : ∀ t, t < 16 → (F (2 * B + t)).toInt = own_dg (own_nb S) (2 * B + t)) : own_h F (2 * B) = v + c ∧ (f_rm5 v c).toInt = own_k (own_nb S) (2 * B + 16) := by
  have kr := own_kr (own_nbr S) (2 * B)
  have kr2 := own_kr (own_nbr S) (2 * B + 16)
  have b := v.toBitVec.isLt
  have ch := own_chunk (own_nbr S) (2 * B) (fun t => (v.toBitVec.toNat : Int) / 16 ^ t) (fun t ht => by rw [own_dig S B v hS t ht]; exact own_U _ t) (own_U16 _ (by omega) (by omega))
  have hq := own_hq F (2 * B)
  rw [own_horc hF] at hq
  have w0 : (v.toBitVec.toNat : Int) / 16 ^ 0 = (v.toBitVec.toNat : Int) := by simp
  have cr := own_cr v c (by omega) (by omega)
  have vi := own_vi v
  have a := c_ladd v c
  have ra := rng64 (v + c)
  have rh := rng64 (own_h F (2 * B))
  obtain ⟨c1, c2, c3⟩ := ch
  try dsimp only at c1
  rw [w0] at c1
  generalize own_hor (fun t => own_dg (own_nb S) (2 * B + t)) = H at *
  generalize own_k (own_nb S) (2 * B) = K0 at *
  generalize own_k (own_nb S) (2 * B + 16) = K1 at *
  generalize (v.toBitVec.toNat : Int) = W at *
  refine ⟨?_, ?_⟩
  · rw [← Int64.toInt_inj]
    generalize (own_h F (2 * B)).toInt = A at *
    generalize (v + c).toInt = Y at *
    omega
  · omega
theorem own_main (q1 q2 q3 q4 : Int64) {F : Nat → Int32} (hF : ∀ j, j < 64 → (F j).toInt = own_fin (own_nb (own_put (own_put (own_put (own_put (fun _ => (0 : Int32)) 0 q1) 8 q2) 16 q3) 24 (v_rm0_0 q4))) j) :
    (∀ t, t < 16 → -8 ≤ (F (0 + t)).toInt ∧ (F (0 + t)).toInt ≤ 7) ∧ (∀ t, t < 16 → -8 ≤ (F (16 + t)).toInt ∧ (F (16 + t)).toInt ≤ 7) ∧ (∀ t, t < 16 → -8 ≤ (F (32 + t)).toInt ∧ (F (32 + t)).toInt ≤ 7) ∧ (∀ t, t < 16 → -8 ≤ (F (48 + t)).toInt ∧ (F (48 + t)).toInt ≤ 7) ∧ (¬ (F 63 < (0 : Int32)) ∧ ¬ ((2 : Int32) < F 63)) ∧ own_h F 0 = q1 + (0 : Int64) ∧ own_h F 16 = q2 + (f_rm5 q1 (0 : Int64)) ∧ own_h F 32 = q3 + (v_rm0_1 q2 q1) ∧ own_h F 48 = (v_rm0_0 q4) + (f_rm5 q3 (v_rm0_1 q2 q1)) ∧ v_rm0_2 q4 q3 q2 q1 = (0 : Int64) := by
  have s0 := own_s0 q1 q2 q3 q4
  have s1 := own_s1 q1 q2 q3 q4
  have s2 := own_s2 q1 q2 q3 q4
  have s3 := own_s3 q1 q2 q3 q4
  generalize hS : (own_put (own_put (own_put (own_put (fun _ => (0 : Int32)) 0 q1) 8 q2) 16 q3) 24 (v_rm0_0 q4)) = S at *
  have dgF : ∀ j, j < 63 → (F j).toInt = own_dg (own_nb S) j := fun j hj => by rw [hF j (by omega)]; unfold own_fin; rw [if_pos hj]
  have o0 := own_one S 0 q1 (fun u hu => s0 u hu) F 0 rfl (fun t ht => dgF _ (by omega))
  have o1 := own_one S 8 q2 s1 F (f_rm5 q1 0) o0.2 (fun t ht => dgF _ (by omega))
  have o2 := own_one S 16 q3 s2 F (v_rm0_1 q2 q1) o1.2 (fun t ht => dgF _ (by omega))
  have lim := own_lim q1 q2 q3 q4
  have kr := own_kr (own_nbr S) 48
  have vi := own_vi (v_rm0_0 q4)
  have hc3 : (f_rm5 q3 (v_rm0_1 q2 q1)).toInt = own_k (own_nb S) 48 := o2.2
  have dig := own_dig S 24 (v_rm0_0 q4) s3
  have ch := own_chunk3 (own_nbr S) (fun t => ((v_rm0_0 q4).toBitVec.toNat : Int) / 16 ^ t) (fun t ht => by rw [dig t ht]; exact own_U _ t) (own_U16 _ (by omega) (by omega))
  have n63 : own_nb S 63 ≤ 1 := by
    have h := dig 15 (by decide)
    simp only [Int.reducePow] at h
    rw [show own_nb S 63 = _ from h]
    omega
  have k63 := own_kr (own_nbr S) 63
  have n63' := own_nbr S 63
  have f63 : (F 63).toInt = own_nb S 63 + own_k (own_nb S) 63 := by rw [hF 63 (by decide)]; rfl
  have rg : ∀ j, j < 64 → -8 ≤ (F j).toInt ∧ (F j).toInt ≤ 7 := fun j hj => by
    by_cases q : j < 63
    · rw [dgF j q]; exact own_dgr (own_nbr S) j
    · rw [show j = 63 by omega, f63]; omega
  have hq := own_hq F 48
  rw [own_horc (d' := fun t => own_fin (own_nb S) (48 + t)) (fun t ht => hF _ (by omega)), ch] at hq
  have w0 : ((v_rm0_0 q4).toBitVec.toNat : Int) / 16 ^ 0 = ((v_rm0_0 q4).toBitVec.toNat : Int) := by simp
  try dsimp only at hq
  rw [w0] at hq
  have cr := own_cr (v_rm0_0 q4) (f_rm5 q3 (v_rm0_1 q2 q1)) (by omega) (by omega)
  have a := c_ladd (v_rm0_0 q4) (f_rm5 q3 (v_rm0_1 q2 q1))
  have ra := rng64 ((v_rm0_0 q4) + f_rm5 q3 (v_rm0_1 q2 q1))
  have rh := rng64 (own_h F 48)
  refine ⟨fun t ht => rg _ (by omega), fun t ht => rg _ (by omega), fun t ht => rg _ (by omega), fun t ht => rg _ (by omega), ⟨?_, ?_⟩, o0.1, o1.1, o2.1, ?_, ?_⟩
  · rw [Int32.lt_iff_toInt_lt, f63, show (0 : Int32).toInt = 0 from by decide]; omega
  · rw [Int32.lt_iff_toInt_lt, f63, show (2 : Int32).toInt = 2 from by decide]; omega
  · rw [← Int64.toInt_inj]
    generalize (own_h F 48).toInt = A at *
    generalize ((v_rm0_0 q4) + f_rm5 q3 (v_rm0_1 q2 q1)).toInt = Y at *
    omega
  · show f_rm5 (v_rm0_0 q4) (f_rm5 q3 (v_rm0_1 q2 q1)) = 0
    rw [← Int64.toInt_inj, show (0 : Int64).toInt = 0 from by decide]
    omega
def Q_rm0 (Z : State) (q1 : Int64) (q2 : Int64) (q3 : Int64) (q4 : Int64) (h0 : Heap) (n0 : Nat) (v : Option Value) (h : Heap) (L : List Loc) : Prop := v = some (.int (1 : Int32)) ∧ Fr n0 L
set_option maxRecDepth 65536 in
set_option maxHeartbeats 40000000 in
theorem rm0 (l : Launch) (Z : State) (a0 : Array Value) (hw : ∀ d ∈ tables_1, d.before a0 Z = true) (ws : List Jvm.Cond) (q1 : Int64) (q2 : Int64) (q3 : Int64) (q4 : Int64) (h0 : Heap) (n0 : Nat) (Z0 : n0 ≤ h0.size)  :
    MetFree l x (head1 (Jvm.Cond.code x code maxLocals ret :: ws) room_1) (fun a U => a = #[(.long q1), (.long q2), (.long q3), (.long q4)] ∧ Z.Warmed39 U.vm ∧ U.heap = h0) (fun _ _ _ _ _ => True) (fun _ U o U' => ∃ v L, o = .returned v ∧ Q_rm0 Z q1 q2 q3 q4 h0 n0 v U'.heap L ∧ FrameEnd U o U' L room_1.cells room_1.slots) := by
  refine own_body (Q := Q_rm0 Z q1 q2 q3 q4 h0 n0) (plainFor_of_name pn_8) ?_
  intro p e s m below meth c s₁ K go fin X0 hx hby hml hown hnm hret hZ e0
  have hown : s.vm.findClass "com/example/withhold/withhold/crypto/Ed25519ScalarsDigitsPinLaw" = some m.cls := hown
  have N0 := Fr.nil n0
  refine go _ (s₁.setTop (mkF m 0 #[.val (.long q1), .second, .val (.long q2), .second, .val (.long q3), .second, .val (.long q4), .second, .unset, .unset, .unset, .unset, .unset, .unset, .unset, .unset, .unset, .unset, .unset, .unset, .unset, .unset, .unset, .unset] [])) (fun t k => castTop (ef_rm0 m q1 q2 q3 q4) k) ?_
  refine go _ (s₁.setTop (mkF m 2 #[.val (.long q1), .second, .val (.long q2), .second, .val (.long q3), .second, .val (.long q4), .second, .unset, .unset, .unset, .unset, .unset, .unset, .unset, .unset, .unset, .unset, .unset, .unset, .unset, .unset, .unset, .unset] [(.long q4)])) (fun t k => XS.lload X0.here hx rfl (hb hby at_0) rfl k) ?_
  refine go _ (s₁.setTop (mkF m 5 #[.val (.long q1), .second, .val (.long q2), .second, .val (.long q3), .second, .val (.long q4), .second, .unset, .unset, .unset, .unset, .unset, .unset, .unset, .unset, .unset, .unset, .unset, .unset, .unset, .unset, .unset, .unset] [(.long (2305843009213693951 : Int64)), (.long q4)])) (X0.ldc2Long hx hown (mvT hZ (hw _ (List.mem_of_getElem? (i := 0) rfl))) (g := (mkF m 2 #[.val (.long q1), .second, .val (.long q2), .second, .val (.long q3), .second, .val (.long q4), .second, .unset, .unset, .unset, .unset, .unset, .unset, .unset, .unset, .unset, .unset, .unset, .unset, .unset, .unset, .unset, .unset] [(.long q4)])) rfl (hb hby at_2)) ?_
  refine go _ (s₁.setTop (mkF m 6 #[.val (.long q1), .second, .val (.long q2), .second, .val (.long q3), .second, .val (.long q4), .second, .unset, .unset, .unset, .unset, .unset, .unset, .unset, .unset, .unset, .unset, .unset, .unset, .unset, .unset, .unset, .unset] [(.long (q4 &&& (2305843009213693951 : Int64)))])) (fun t k => XS.land X0.here hx rfl (hb hby at_5) rfl k) ?_
  refine go _ (s₁.setTop (mkF m 8 #[.val (.long q1), .second, .val (.long q2), .second, .val (.long q3), .second, .val (.long q4), .second, .val (.long (v_rm0_0 q4)), .second, .unset, .unset, .unset, .unset, .unset, .unset, .unset, .unset, .unset, .unset, .unset, .unset, .unset, .unset] [])) (fun t k => XS.lstore X0.here hx rfl (hb hby at_6) rfl (l' := #[.val (.long q1), .second, .val (.long q2), .second, .val (.long q3), .second, .val (.long q4), .second, .val (.long (v_rm0_0 q4)), .second, .unset, .unset, .unset, .unset, .unset, .unset, .unset, .unset, .unset, .unset, .unset, .unset, .unset, .unset]) rfl k) ?_
  refine go _ (s₁.setTop (mkF m 10 #[.val (.long q1), .second, .val (.long q2), .second, .val (.long q3), .second, .val (.long q4), .second, .val (.long (v_rm0_0 q4)), .second, .unset, .unset, .unset, .unset, .unset, .unset, .unset, .unset, .unset, .unset, .unset, .unset, .unset, .unset] [(.int (32 : Int32))])) (fun t k => XS.bipush X0.here hx rfl (hb hby at_8) k) ?_
  obtain ⟨T117, h117, b117, X117, e117, E117, g117, A117, st117⟩ := own_new X0 hx hZ (hw _ (List.mem_of_getElem? (i := 1) rfl)) e0 (g := (mkF m 10 #[.val (.long q1), .second, .val (.long q2), .second, .val (.long q3), .second, .val (.long q4), .second, .val (.long (v_rm0_0 q4)), .second, .unset, .unset, .unset, .unset, .unset, .unset, .unset, .unset, .unset, .unset, .unset, .unset, .unset, .unset] [(.int (32 : Int32))])) rfl (hb hby at_10) rfl (k := 32) (by decide) 32 (by decide) (by decide) (by decide) (by decide)
  have Z118 : n0 ≤ h117.size := Nat.le_trans Z0 E117.1
  have ge_b117 : n0 ≤ b117 := by rw [g117]; exact Z0
  have A117' : AF Z h117 b117 .byte 32 (fun _ => .int 0) := A117
  refine go _ (T117.setTop (mkF m 12 #[.val (.long q1), .second, .val (.long q2), .second, .val (.long q3), .second, .val (.long q4), .second, .val (.long (v_rm0_0 q4)), .second, .unset, .unset, .unset, .unset, .unset, .unset, .unset, .unset, .unset, .unset, .unset, .unset, .unset, .unset] [(.ref b117)])) (st117) ?_
  refine go _ (T117.setTop (mkF m 14 #[.val (.long q1), .second, .val (.long q2), .second, .val (.long q3), .second, .val (.long q4), .second, .val (.long (v_rm0_0 q4)), .second, .val (.ref b117), .unset, .unset, .unset, .unset, .unset, .unset, .unset, .unset, .unset, .unset, .unset, .unset, .unset] [])) (fun t k => XS.astore X117.here hx rfl (hb hby at_12) rfl rfl (l' := #[.val (.long q1), .second, .val (.long q2), .second, .val (.long q3), .second, .val (.long q4), .second, .val (.long (v_rm0_0 q4)), .second, .val (.ref b117), .unset, .unset, .unset, .unset, .unset, .unset, .unset, .unset, .unset, .unset, .unset, .unset, .unset]) rfl k) ?_
  refine go _ (T117.setTop (mkF m 16 #[.val (.long q1), .second, .val (.long q2), .second, .val (.long q3), .second, .val (.long q4), .second, .val (.long (v_rm0_0 q4)), .second, .val (.ref b117), .unset, .unset, .unset, .unset, .unset, .unset, .unset, .unset, .unset, .unset, .unset, .unset, .unset] [(.ref b117)])) (fun t k => XS.aload X117.here hx rfl (hb hby at_14) rfl rfl k) ?_
  refine go _ (T117.setTop (mkF m 17 #[.val (.long q1), .second, .val (.long q2), .second, .val (.long q3), .second, .val (.long q4), .second, .val (.long (v_rm0_0 q4)), .second, .val (.ref b117), .unset, .unset, .unset, .unset, .unset, .unset, .unset, .unset, .unset, .unset, .unset, .unset, .unset] [(.int (0 : Int32)), (.ref b117)])) (fun t k => XS.iconst X117.here hx rfl (hb hby at_16) k) ?_
  refine go _ (T117.setTop (mkF m 18 #[.val (.long q1), .second, .val (.long q2), .second, .val (.long q3), .second, .val (.long q4), .second, .val (.long (v_rm0_0 q4)), .second, .val (.ref b117), .unset, .unset, .unset, .unset, .unset, .unset, .unset, .unset, .unset, .unset, .unset, .unset, .unset] [(.long q1), (.int (0 : Int32)), (.ref b117)])) (fun t k => XS.lloadN X117.here hx rfl (hb hby at_17) rfl k) ?_
  obtain ⟨_, _, ⟨T119, L119, k119, n119⟩, -, X119, ⟨Lc119, hQ119, l119, y119, z119⟩, st119⟩ := Jvm.LawKit.callS X117 hx (y := (⟨"com/example/withhold/withhold/crypto/Ed25519ScalarsDigitsPinLaw", "put", "([BIJ)V"⟩ : MethodName)) hown (mvT hZ (hw _ (List.mem_of_getElem? (i := 2) rfl))) (mvT hZ (hw _ (List.mem_of_getElem? (i := 3) rfl))) (mvT hZ (hw _ (List.mem_of_getElem? (i := 4) rfl))) (mvT hZ (hw _ (List.mem_of_getElem? (i := 5) rfl))) (by decide) (backOf (W := 0) (rm1 l Z a0 hw [] b117 (0 : Int32) q1 (fun _ => (0 : Int32)) 0 h117 n0 Z118 A117' ge_b117 (by decide) (by decide)) hZ (hw _ (List.mem_of_getElem? (i := 5) rfl)) (hw _ (List.mem_of_getElem? (i := 4) rfl)) (by decide) (by decide)) (g := (mkF m 18 #[.val (.long q1), .second, .val (.long q2), .second, .val (.long q3), .second, .val (.long q4), .second, .val (.long (v_rm0_0 q4)), .second, .val (.ref b117), .unset, .unset, .unset, .unset, .unset, .unset, .unset, .unset, .unset, .unset, .unset, .unset, .unset] [(.long q1), (.int (0 : Int32)), (.ref b117)])) rfl (by rw [hml]; rfl) (argsL := [(.ref b117), (.int (0 : Int32)), (.long q1)]) (rest := []) (lenOf pd_1 rfl) rfl (by show 2 * 0 + _ ≤ _; exact Nat.le_of_eq rfl) (hb hby at_18) (fun _ _ => ⟨rfl, e117, (by decide : 0 + 1 + 0 ≤ _), (by decide : 0 + 32 + 0 ≤ _)⟩)
  dsimp only [Pt.U, Pt.locs, Pt.cells, Pt.slots] at X119 l119 y119 z119 st119 hQ119
  rw [l119, y119, z119] at X119
  obtain ⟨rfl, Nq119, Kq119, Aq119⟩ := hQ119
  have N120 := Fr.app N0 Nq119
  have X119 : Stand p l e room_1 s m _ below meth c T119 _ 1 32 := X119
  have Z121 : n0 ≤ T119.heap.size := Nat.le_trans Z118 Kq119.1
  refine go _ (T119.setTop (mkF m 21 #[.val (.long q1), .second, .val (.long q2), .second, .val (.long q3), .second, .val (.long q4), .second, .val (.long (v_rm0_0 q4)), .second, .val (.ref b117), .unset, .unset, .unset, .unset, .unset, .unset, .unset, .unset, .unset, .unset, .unset, .unset, .unset] [])) (st119) ?_
  refine go _ (T119.setTop (mkF m 23 #[.val (.long q1), .second, .val (.long q2), .second, .val (.long q3), .second, .val (.long q4), .second, .val (.long (v_rm0_0 q4)), .second, .val (.ref b117), .unset, .unset, .unset, .unset, .unset, .unset, .unset, .unset, .unset, .unset, .unset, .unset, .unset] [(.ref b117)])) (fun t k => XS.aload X119.here hx rfl (hb hby at_21) rfl rfl k) ?_
  refine go _ (T119.setTop (mkF m 25 #[.val (.long q1), .second, .val (.long q2), .second, .val (.long q3), .second, .val (.long q4), .second, .val (.long (v_rm0_0 q4)), .second, .val (.ref b117), .unset, .unset, .unset, .unset, .unset, .unset, .unset, .unset, .unset, .unset, .unset, .unset, .unset] [(.int (8 : Int32)), (.ref b117)])) (fun t k => XS.bipush X119.here hx rfl (hb hby at_23) k) ?_
  refine go _ (T119.setTop (mkF m 26 #[.val (.long q1), .second, .val (.long q2), .second, .val (.long q3), .second, .val (.long q4), .second, .val (.long (v_rm0_0 q4)), .second, .val (.ref b117), .unset, .unset, .unset, .unset, .unset, .unset, .unset, .unset, .unset, .unset, .unset, .unset, .unset] [(.long q2), (.int (8 : Int32)), (.ref b117)])) (fun t k => XS.lloadN X119.here hx rfl (hb hby at_25) rfl k) ?_
  obtain ⟨_, _, ⟨T122, L122, k122, n122⟩, -, X122, ⟨Lc122, hQ122, l122, y122, z122⟩, st122⟩ := Jvm.LawKit.callS X119 hx (y := (⟨"com/example/withhold/withhold/crypto/Ed25519ScalarsDigitsPinLaw", "put", "([BIJ)V"⟩ : MethodName)) hown (mvT hZ (hw _ (List.mem_of_getElem? (i := 2) rfl))) (mvT hZ (hw _ (List.mem_of_getElem? (i := 3) rfl))) (mvT hZ (hw _ (List.mem_of_getElem? (i := 4) rfl))) (mvT hZ (hw _ (List.mem_of_getElem? (i := 5) rfl))) (by decide) (backOf (W := 0) (rm1 l Z a0 hw [] b117 (8 : Int32) q2 (own_put (fun _ => (0 : Int32)) 0 q1) 8 T119.heap n0 Z121 Aq119 ge_b117 (by decide) (by decide)) hZ (hw _ (List.mem_of_getElem? (i := 5) rfl)) (hw _ (List.mem_of_getElem? (i := 4) rfl)) (by decide) (by decide)) (g := (mkF m 26 #[.val (.long q1), .second, .val (.long q2), .second, .val (.long q3), .second, .val (.long q4), .second, .val (.long (v_rm0_0 q4)), .second, .val (.ref b117), .unset, .unset, .unset, .unset, .unset, .unset, .unset, .unset, .unset, .unset, .unset, .unset, .unset] [(.long q2), (.int (8 : Int32)), (.ref b117)])) rfl (by rw [hml]; rfl) (argsL := [(.ref b117), (.int (8 : Int32)), (.long q2)]) (rest := []) (lenOf pd_1 rfl) rfl (by show 2 * 0 + _ ≤ _; exact Nat.le_of_eq rfl) (hb hby at_26) (fun _ _ => ⟨rfl, rfl, (by decide : 1 + 0 ≤ _), (by decide : 32 + 0 ≤ _)⟩)
  dsimp only [Pt.U, Pt.locs, Pt.cells, Pt.slots] at X122 l122 y122 z122 st122 hQ122
  rw [l122, y122, z122] at X122
  obtain ⟨rfl, Nq122, Kq122, Aq122⟩ := hQ122
  have N123 := Fr.app N120 Nq122
  have X122 : Stand p l e room_1 s m _ below meth c T122 _ 1 32 := X122
  have Z124 : n0 ≤ T122.heap.size := Nat.le_trans Z121 Kq122.1
  refine go _ (T122.setTop (mkF m 29 #[.val (.long q1), .second, .val (.long q2), .second, .val (.long q3), .second, .val (.long q4), .second, .val (.long (v_rm0_0 q4)), .second, .val (.ref b117), .unset, .unset, .unset, .unset, .unset, .unset, .unset, .unset, .unset, .unset, .unset, .unset, .unset] [])) (st122) ?_
  refine go _ (T122.setTop (mkF m 31 #[.val (.long q1), .second, .val (.long q2), .second, .val (.long q3), .second, .val (.long q4), .second, .val (.long (v_rm0_0 q4)), .second, .val (.ref b117), .unset, .unset, .unset, .unset, .unset, .unset, .unset, .unset, .unset, .unset, .unset, .unset, .unset] [(.ref b117)])) (fun t k => XS.aload X122.here hx rfl (hb hby at_29) rfl rfl k) ?_
  refine go _ (T122.setTop (mkF m 33 #[.val (.long q1), .second, .val (.long q2), .second, .val (.long q3), .second, .val (.long q4), .second, .val (.long (v_rm0_0 q4)), .second, .val (.ref b117), .unset, .unset, .unset, .unset, .unset, .unset, .unset, .unset, .unset, .unset, .unset, .unset, .unset] [(.int (16 : Int32)), (.ref b117)])) (fun t k => XS.bipush X122.here hx rfl (hb hby at_31) k) ?_
  refine go _ (T122.setTop (mkF m 35 #[.val (.long q1), .second, .val (.long q2), .second, .val (.long q3), .second, .val (.long q4), .second, .val (.long (v_rm0_0 q4)), .second, .val (.ref b117), .unset, .unset, .unset, .unset, .unset, .unset, .unset, .unset, .unset, .unset, .unset, .unset, .unset] [(.long q3), (.int (16 : Int32)), (.ref b117)])) (fun t k => XS.lload X122.here hx rfl (hb hby at_33) rfl k) ?_
  obtain ⟨_, _, ⟨T125, L125, k125, n125⟩, -, X125, ⟨Lc125, hQ125, l125, y125, z125⟩, st125⟩ := Jvm.LawKit.callS X122 hx (y := (⟨"com/example/withhold/withhold/crypto/Ed25519ScalarsDigitsPinLaw", "put", "([BIJ)V"⟩ : MethodName)) hown (mvT hZ (hw _ (List.mem_of_getElem? (i := 2) rfl))) (mvT hZ (hw _ (List.mem_of_getElem? (i := 3) rfl))) (mvT hZ (hw _ (List.mem_of_getElem? (i := 4) rfl))) (mvT hZ (hw _ (List.mem_of_getElem? (i := 5) rfl))) (by decide) (backOf (W := 0) (rm1 l Z a0 hw [] b117 (16 : Int32) q3 (own_put (own_put (fun _ => (0 : Int32)) 0 q1) 8 q2) 16 T122.heap n0 Z124 Aq122 ge_b117 (by decide) (by decide)) hZ (hw _ (List.mem_of_getElem? (i := 5) rfl)) (hw _ (List.mem_of_getElem? (i := 4) rfl)) (by decide) (by decide)) (g := (mkF m 35 #[.val (.long q1), .second, .val (.long q2), .second, .val (.long q3), .second, .val (.long q4), .second, .val (.long (v_rm0_0 q4)), .second, .val (.ref b117), .unset, .unset, .unset, .unset, .unset, .unset, .unset, .unset, .unset, .unset, .unset, .unset, .unset] [(.long q3), (.int (16 : Int32)), (.ref b117)])) rfl (by rw [hml]; rfl) (argsL := [(.ref b117), (.int (16 : Int32)), (.long q3)]) (rest := []) (lenOf pd_1 rfl) rfl (by show 2 * 0 + _ ≤ _; exact Nat.le_of_eq rfl) (hb hby at_35) (fun _ _ => ⟨rfl, rfl, (by decide : 1 + 0 ≤ _), (by decide : 32 + 0 ≤ _)⟩)
  dsimp only [Pt.U, Pt.locs, Pt.cells, Pt.slots] at X125 l125 y125 z125 st125 hQ125
  rw [l125, y125, z125] at X125
  obtain ⟨rfl, Nq125, Kq125, Aq125⟩ := hQ125
  have N126 := Fr.app N123 Nq125
  have X125 : Stand p l e room_1 s m _ below meth c T125 _ 1 32 := X125
  have Z127 : n0 ≤ T125.heap.size := Nat.le_trans Z124 Kq125.1
  refine go _ (T125.setTop (mkF m 38 #[.val (.long q1), .second, .val (.long q2), .second, .val (.long q3), .second, .val (.long q4), .second, .val (.long (v_rm0_0 q4)), .second, .val (.ref b117), .unset, .unset, .unset, .unset, .unset, .unset, .unset, .unset, .unset, .unset, .unset, .unset, .unset] [])) (st125) ?_
  refine go _ (T125.setTop (mkF m 40 #[.val (.long q1), .second, .val (.long q2), .second, .val (.long q3), .second, .val (.long q4), .second, .val (.long (v_rm0_0 q4)), .second, .val (.ref b117), .unset, .unset, .unset, .unset, .unset, .unset, .unset, .unset, .unset, .unset, .unset, .unset, .unset] [(.ref b117)])) (fun t k => XS.aload X125.here hx rfl (hb hby at_38) rfl rfl k) ?_
  refine go _ (T125.setTop (mkF m 42 #[.val (.long q1), .second, .val (.long q2), .second, .val (.long q3), .second, .val (.long q4), .second, .val (.long (v_rm0_0 q4)), .second, .val (.ref b117), .unset, .unset, .unset, .unset, .unset, .unset, .unset, .unset, .unset, .unset, .unset, .unset, .unset] [(.int (24 : Int32)), (.ref b117)])) (fun t k => XS.bipush X125.here hx rfl (hb hby at_40) k) ?_
  refine go _ (T125.setTop (mkF m 44 #[.val (.long q1), .second, .val (.long q2), .second, .val (.long q3), .second, .val (.long q4), .second, .val (.long (v_rm0_0 q4)), .second, .val (.ref b117), .unset, .unset, .unset, .unset, .unset, .unset, .unset, .unset, .unset, .unset, .unset, .unset, .unset] [(.long (v_rm0_0 q4)), (.int (24 : Int32)), (.ref b117)])) (fun t k => XS.lload X125.here hx rfl (hb hby at_42) rfl k) ?_
  obtain ⟨_, _, ⟨T128, L128, k128, n128⟩, -, X128, ⟨Lc128, hQ128, l128, y128, z128⟩, st128⟩ := Jvm.LawKit.callS X125 hx (y := (⟨"com/example/withhold/withhold/crypto/Ed25519ScalarsDigitsPinLaw", "put", "([BIJ)V"⟩ : MethodName)) hown (mvT hZ (hw _ (List.mem_of_getElem? (i := 2) rfl))) (mvT hZ (hw _ (List.mem_of_getElem? (i := 3) rfl))) (mvT hZ (hw _ (List.mem_of_getElem? (i := 4) rfl))) (mvT hZ (hw _ (List.mem_of_getElem? (i := 5) rfl))) (by decide) (backOf (W := 0) (rm1 l Z a0 hw [] b117 (24 : Int32) (v_rm0_0 q4) (own_put (own_put (own_put (fun _ => (0 : Int32)) 0 q1) 8 q2) 16 q3) 24 T125.heap n0 Z127 Aq125 ge_b117 (by decide) (by decide)) hZ (hw _ (List.mem_of_getElem? (i := 5) rfl)) (hw _ (List.mem_of_getElem? (i := 4) rfl)) (by decide) (by decide)) (g := (mkF m 44 #[.val (.long q1), .second, .val (.long q2), .second, .val (.long q3), .second, .val (.long q4), .second, .val (.long (v_rm0_0 q4)), .second, .val (.ref b117), .unset, .unset, .unset, .unset, .unset, .unset, .unset, .unset, .unset, .unset, .unset, .unset, .unset] [(.long (v_rm0_0 q4)), (.int (24 : Int32)), (.ref b117)])) rfl (by rw [hml]; rfl) (argsL := [(.ref b117), (.int (24 : Int32)), (.long (v_rm0_0 q4))]) (rest := []) (lenOf pd_1 rfl) rfl (by show 2 * 0 + _ ≤ _; exact Nat.le_of_eq rfl) (hb hby at_44) (fun _ _ => ⟨rfl, rfl, (by decide : 1 + 0 ≤ _), (by decide : 32 + 0 ≤ _)⟩)
  dsimp only [Pt.U, Pt.locs, Pt.cells, Pt.slots] at X128 l128 y128 z128 st128 hQ128
  rw [l128, y128, z128] at X128
  obtain ⟨rfl, Nq128, Kq128, Aq128⟩ := hQ128
  have N129 := Fr.app N126 Nq128
  have X128 : Stand p l e room_1 s m _ below meth c T128 _ 1 32 := X128
  have Z130 : n0 ≤ T128.heap.size := Nat.le_trans Z127 Kq128.1
  refine go _ (T128.setTop (mkF m 47 #[.val (.long q1), .second, .val (.long q2), .second, .val (.long q3), .second, .val (.long q4), .second, .val (.long (v_rm0_0 q4)), .second, .val (.ref b117), .unset, .unset, .unset, .unset, .unset, .unset, .unset, .unset, .unset, .unset, .unset, .unset, .unset] [])) (st128) ?_
  refine go _ (T128.setTop (mkF m 49 #[.val (.long q1), .second, .val (.long q2), .second, .val (.long q3), .second, .val (.long q4), .second, .val (.long (v_rm0_0 q4)), .second, .val (.ref b117), .unset, .unset, .unset, .unset, .unset, .unset, .unset, .unset, .unset, .unset, .unset, .unset, .unset] [(.ref b117)])) (fun t k => XS.aload X128.here hx rfl (hb hby at_47) rfl rfl k) ?_
  obtain ⟨_, _, ⟨T131, L131, k131, n131⟩, -, X131, ⟨Lc131, hQ131, l131, y131, z131⟩, st131⟩ := Jvm.LawKit.callS X128 hx (y := (⟨"com/example/withhold/withhold/crypto/Ed25519Scalars", "digits", "([B)[B"⟩ : MethodName)) hown (mvT hZ (hw _ (List.mem_of_getElem? (i := 6) rfl))) (mvT hZ (hw _ (List.mem_of_getElem? (i := 7) rfl))) (mvT hZ (hw _ (List.mem_of_getElem? (i := 8) rfl))) (mvT hZ (hw _ (List.mem_of_getElem? (i := 9) rfl))) (by decide) (backOf (W := 0) (rm2 l Z a0 hw [] b117 (own_put (own_put (own_put (own_put (fun _ => (0 : Int32)) 0 q1) 8 q2) 16 q3) 24 (v_rm0_0 q4)) T128.heap n0 Z130 Aq128) hZ (hw _ (List.mem_of_getElem? (i := 9) rfl)) (hw _ (List.mem_of_getElem? (i := 8) rfl)) (by decide) (by decide)) (g := (mkF m 49 #[.val (.long q1), .second, .val (.long q2), .second, .val (.long q3), .second, .val (.long q4), .second, .val (.long (v_rm0_0 q4)), .second, .val (.ref b117), .unset, .unset, .unset, .unset, .unset, .unset, .unset, .unset, .unset, .unset, .unset, .unset, .unset] [(.ref b117)])) rfl (by rw [hml]; rfl) (argsL := [(.ref b117)]) (rest := []) (lenOf pd_2 rfl) rfl (by show 2 * 0 + _ ≤ _; exact Nat.le_of_eq rfl) (hb hby at_49) (fun _ _ => ⟨rfl, rfl, (by decide : 1 + 1 ≤ _), (by decide : 32 + 64 ≤ _)⟩)
  dsimp only [Pt.U, Pt.locs, Pt.cells, Pt.slots] at X131 l131 y131 z131 st131 hQ131
  rw [l131, y131, z131] at X131
  obtain ⟨b131, rfl, Nq131, geq131, szq131, Kq131, Fd131, Aq131, hFd131⟩ := hQ131
  have N132 := Fr.app N129 Nq131
  have X131 : Stand p l e room_1 s m _ below meth c T131 _ 2 96 := X131
  have Z133 : n0 ≤ T131.heap.size := Nat.le_trans Z130 Kq131.1
  have A134 := Aq128.keep Kq131 nin0
  have ne_b117_b131 : b117 ≠ b131 := Nat.ne_of_lt (Nat.lt_of_lt_of_le Aq128.lt szq131)
  obtain ⟨R0, R1, R2, R3, R63, E0, E1, E2, E3, EC⟩ := own_main q1 q2 q3 q4 hFd131
  refine go _ (T131.setTop (mkF m 52 #[.val (.long q1), .second, .val (.long q2), .second, .val (.long q3), .second, .val (.long q4), .second, .val (.long (v_rm0_0 q4)), .second, .val (.ref b117), .unset, .unset, .unset, .unset, .unset, .unset, .unset, .unset, .unset, .unset, .unset, .unset, .unset] [(.ref b131)])) (st131) ?_
  refine go _ (T131.setTop (mkF m 54 #[.val (.long q1), .second, .val (.long q2), .second, .val (.long q3), .second, .val (.long q4), .second, .val (.long (v_rm0_0 q4)), .second, .val (.ref b117), .val (.ref b131), .unset, .unset, .unset, .unset, .unset, .unset, .unset, .unset, .unset, .unset, .unset, .unset] [])) (fun t k => XS.astore X131.here hx rfl (hb hby at_52) rfl rfl (l' := #[.val (.long q1), .second, .val (.long q2), .second, .val (.long q3), .second, .val (.long q4), .second, .val (.long (v_rm0_0 q4)), .second, .val (.ref b117), .val (.ref b131), .unset, .unset, .unset, .unset, .unset, .unset, .unset, .unset, .unset, .unset, .unset, .unset]) rfl k) ?_
  refine go _ (T131.setTop (mkF m 56 #[.val (.long q1), .second, .val (.long q2), .second, .val (.long q3), .second, .val (.long q4), .second, .val (.long (v_rm0_0 q4)), .second, .val (.ref b117), .val (.ref b131), .unset, .unset, .unset, .unset, .unset, .unset, .unset, .unset, .unset, .unset, .unset, .unset] [(.ref b131)])) (fun t k => XS.aload X131.here hx rfl (hb hby at_54) rfl rfl k) ?_
  refine go _ (T131.setTop (mkF m 57 #[.val (.long q1), .second, .val (.long q2), .second, .val (.long q3), .second, .val (.long q4), .second, .val (.long (v_rm0_0 q4)), .second, .val (.ref b117), .val (.ref b131), .unset, .unset, .unset, .unset, .unset, .unset, .unset, .unset, .unset, .unset, .unset, .unset] [(.int (Int32.ofNat 64))])) (own_len X131 hx hZ rfl Aq131 (g := (mkF m 56 #[.val (.long q1), .second, .val (.long q2), .second, .val (.long q3), .second, .val (.long q4), .second, .val (.long (v_rm0_0 q4)), .second, .val (.ref b117), .val (.ref b131), .unset, .unset, .unset, .unset, .unset, .unset, .unset, .unset, .unset, .unset, .unset, .unset] [(.ref b131)])) rfl rfl (hb hby at_56)) ?_
  refine go _ (T131.setTop (mkF m 59 #[.val (.long q1), .second, .val (.long q2), .second, .val (.long q3), .second, .val (.long q4), .second, .val (.long (v_rm0_0 q4)), .second, .val (.ref b117), .val (.ref b131), .unset, .unset, .unset, .unset, .unset, .unset, .unset, .unset, .unset, .unset, .unset, .unset] [(.int (64 : Int32)), (.int (Int32.ofNat 64))])) (fun t k => XS.bipush X131.here hx rfl (hb hby at_57) k) ?_
  have hc135 : ((Int32.ofNat 64) = (64 : Int32)) := (by decide)
  refine go _ (T131.setTop (mkF m 64 #[.val (.long q1), .second, .val (.long q2), .second, .val (.long q3), .second, .val (.long q4), .second, .val (.long (v_rm0_0 q4)), .second, .val (.ref b117), .val (.ref b131), .unset, .unset, .unset, .unset, .unset, .unset, .unset, .unset, .unset, .unset, .unset, .unset] [])) (fun t k => XS.icmpYes X131.here hx rfl (pc0 := 59) (pc' := 64) rfl (hb hby at_59) rfl (teq hc135).1 (by decide) (by decide) k) ?_
  refine go _ (T131.setTop (mkF m 66 #[.val (.long q1), .second, .val (.long q2), .second, .val (.long q3), .second, .val (.long q4), .second, .val (.long (v_rm0_0 q4)), .second, .val (.ref b117), .val (.ref b131), .unset, .unset, .unset, .unset, .unset, .unset, .unset, .unset, .unset, .unset, .unset, .unset] [(.ref b131)])) (fun t k => XS.aload X131.here hx rfl (hb hby at_64) rfl rfl k) ?_
  refine go _ (T131.setTop (mkF m 67 #[.val (.long q1), .second, .val (.long q2), .second, .val (.long q3), .second, .val (.long q4), .second, .val (.long (v_rm0_0 q4)), .second, .val (.ref b117), .val (.ref b131), .unset, .unset, .unset, .unset, .unset, .unset, .unset, .unset, .unset, .unset, .unset, .unset] [(.int (0 : Int32)), (.ref b131)])) (fun t k => XS.iconst X131.here hx rfl (hb hby at_66) k) ?_
  obtain ⟨_, _, ⟨T136, L136, k136, n136⟩, -, X136, ⟨Lc136, hQ136, l136, y136, z136⟩, st136⟩ := Jvm.LawKit.callS X131 hx (y := (⟨"com/example/withhold/withhold/crypto/Ed25519ScalarsDigitsPinLaw", "chunkOk", "([BI)Z"⟩ : MethodName)) hown (mvT hZ (hw _ (List.mem_of_getElem? (i := 10) rfl))) (mvT hZ (hw _ (List.mem_of_getElem? (i := 11) rfl))) (mvT hZ (hw _ (List.mem_of_getElem? (i := 4) rfl))) (mvT hZ (hw _ (List.mem_of_getElem? (i := 12) rfl))) (by decide) (backOf (W := 0) (rm3 l Z a0 hw [] b131 (0 : Int32) Fd131 0 T131.heap n0 Z133 Aq131 (by decide) (by decide) R0) hZ (hw _ (List.mem_of_getElem? (i := 12) rfl)) (hw _ (List.mem_of_getElem? (i := 4) rfl)) (by decide) (by decide)) (g := (mkF m 67 #[.val (.long q1), .second, .val (.long q2), .second, .val (.long q3), .second, .val (.long q4), .second, .val (.long (v_rm0_0 q4)), .second, .val (.ref b117), .val (.ref b131), .unset, .unset, .unset, .unset, .unset, .unset, .unset, .unset, .unset, .unset, .unset, .unset] [(.int (0 : Int32)), (.ref b131)])) rfl (by rw [hml]; rfl) (argsL := [(.ref b131), (.int (0 : Int32))]) (rest := []) (lenOf pd_3 rfl) rfl (by show 2 * 0 + _ ≤ _; exact Nat.le_of_eq rfl) (hb hby at_67) (fun _ _ => ⟨rfl, rfl, (by decide : 2 + 0 ≤ _), (by decide : 96 + 0 ≤ _)⟩)
  dsimp only [Pt.U, Pt.locs, Pt.cells, Pt.slots] at X136 l136 y136 z136 st136 hQ136
  rw [l136, y136, z136] at X136
  obtain ⟨rfl, Nq136, hh136⟩ := hQ136
  have N137 := Fr.app N132 Nq136
  have X136 : Stand p l e room_1 s m _ below meth c T136 _ 2 96 := X136
  refine go _ (T136.setTop (mkF m 70 #[.val (.long q1), .second, .val (.long q2), .second, .val (.long q3), .second, .val (.long q4), .second, .val (.long (v_rm0_0 q4)), .second, .val (.ref b117), .val (.ref b131), .unset, .unset, .unset, .unset, .unset, .unset, .unset, .unset, .unset, .unset, .unset, .unset] [(.int (1 : Int32))])) (st136) ?_
  have hc138 : ¬ ((1 : Int32) = (0 : Int32)) := by decide
  refine go _ (T136.setTop (mkF m 73 #[.val (.long q1), .second, .val (.long q2), .second, .val (.long q3), .second, .val (.long q4), .second, .val (.long (v_rm0_0 q4)), .second, .val (.ref b117), .val (.ref b131), .unset, .unset, .unset, .unset, .unset, .unset, .unset, .unset, .unset, .unset, .unset, .unset] [])) (fun t k => XS.ifNo X136.here hx rfl (hb hby at_70) rfl ((if0 _ _).trans (feq hc138).1) k) ?_
  refine go _ (T136.setTop (mkF m 75 #[.val (.long q1), .second, .val (.long q2), .second, .val (.long q3), .second, .val (.long q4), .second, .val (.long (v_rm0_0 q4)), .second, .val (.ref b117), .val (.ref b131), .unset, .unset, .unset, .unset, .unset, .unset, .unset, .unset, .unset, .unset, .unset, .unset] [(.ref b131)])) (fun t k => XS.aload X136.here hx rfl (hb hby at_73) rfl rfl k) ?_
  refine go _ (T136.setTop (mkF m 77 #[.val (.long q1), .second, .val (.long q2), .second, .val (.long q3), .second, .val (.long q4), .second, .val (.long (v_rm0_0 q4)), .second, .val (.ref b117), .val (.ref b131), .unset, .unset, .unset, .unset, .unset, .unset, .unset, .unset, .unset, .unset, .unset, .unset] [(.int (16 : Int32)), (.ref b131)])) (fun t k => XS.bipush X136.here hx rfl (hb hby at_75) k) ?_
  obtain ⟨_, _, ⟨T139, L139, k139, n139⟩, -, X139, ⟨Lc139, hQ139, l139, y139, z139⟩, st139⟩ := Jvm.LawKit.callS X136 hx (y := (⟨"com/example/withhold/withhold/crypto/Ed25519ScalarsDigitsPinLaw", "chunkOk", "([BI)Z"⟩ : MethodName)) hown (mvT hZ (hw _ (List.mem_of_getElem? (i := 10) rfl))) (mvT hZ (hw _ (List.mem_of_getElem? (i := 11) rfl))) (mvT hZ (hw _ (List.mem_of_getElem? (i := 4) rfl))) (mvT hZ (hw _ (List.mem_of_getElem? (i := 12) rfl))) (by decide) (backOf (W := 0) (rm3 l Z a0 hw [] b131 (16 : Int32) Fd131 16 T131.heap n0 Z133 Aq131 (by decide) (by decide) R1) hZ (hw _ (List.mem_of_getElem? (i := 12) rfl)) (hw _ (List.mem_of_getElem? (i := 4) rfl)) (by decide) (by decide)) (g := (mkF m 77 #[.val (.long q1), .second, .val (.long q2), .second, .val (.long q3), .second, .val (.long q4), .second, .val (.long (v_rm0_0 q4)), .second, .val (.ref b117), .val (.ref b131), .unset, .unset, .unset, .unset, .unset, .unset, .unset, .unset, .unset, .unset, .unset, .unset] [(.int (16 : Int32)), (.ref b131)])) rfl (by rw [hml]; rfl) (argsL := [(.ref b131), (.int (16 : Int32))]) (rest := []) (lenOf pd_3 rfl) rfl (by show 2 * 0 + _ ≤ _; exact Nat.le_of_eq rfl) (hb hby at_77) (fun _ _ => ⟨rfl, hh136, (by decide : 2 + 0 ≤ _), (by decide : 96 + 0 ≤ _)⟩)
  dsimp only [Pt.U, Pt.locs, Pt.cells, Pt.slots] at X139 l139 y139 z139 st139 hQ139
  rw [l139, y139, z139] at X139
  obtain ⟨rfl, Nq139, hh139⟩ := hQ139
  have N140 := Fr.app N137 Nq139
  have X139 : Stand p l e room_1 s m _ below meth c T139 _ 2 96 := X139
  refine go _ (T139.setTop (mkF m 80 #[.val (.long q1), .second, .val (.long q2), .second, .val (.long q3), .second, .val (.long q4), .second, .val (.long (v_rm0_0 q4)), .second, .val (.ref b117), .val (.ref b131), .unset, .unset, .unset, .unset, .unset, .unset, .unset, .unset, .unset, .unset, .unset, .unset] [(.int (1 : Int32))])) (st139) ?_
  have hc141 : ¬ ((1 : Int32) = (0 : Int32)) := by decide
  refine go _ (T139.setTop (mkF m 83 #[.val (.long q1), .second, .val (.long q2), .second, .val (.long q3), .second, .val (.long q4), .second, .val (.long (v_rm0_0 q4)), .second, .val (.ref b117), .val (.ref b131), .unset, .unset, .unset, .unset, .unset, .unset, .unset, .unset, .unset, .unset, .unset, .unset] [])) (fun t k => XS.ifNo X139.here hx rfl (hb hby at_80) rfl ((if0 _ _).trans (feq hc141).1) k) ?_
  refine go _ (T139.setTop (mkF m 85 #[.val (.long q1), .second, .val (.long q2), .second, .val (.long q3), .second, .val (.long q4), .second, .val (.long (v_rm0_0 q4)), .second, .val (.ref b117), .val (.ref b131), .unset, .unset, .unset, .unset, .unset, .unset, .unset, .unset, .unset, .unset, .unset, .unset] [(.ref b131)])) (fun t k => XS.aload X139.here hx rfl (hb hby at_83) rfl rfl k) ?_
  refine go _ (T139.setTop (mkF m 87 #[.val (.long q1), .second, .val (.long q2), .second, .val (.long q3), .second, .val (.long q4), .second, .val (.long (v_rm0_0 q4)), .second, .val (.ref b117), .val (.ref b131), .unset, .unset, .unset, .unset, .unset, .unset, .unset, .unset, .unset, .unset, .unset, .unset] [(.int (32 : Int32)), (.ref b131)])) (fun t k => XS.bipush X139.here hx rfl (hb hby at_85) k) ?_
  obtain ⟨_, _, ⟨T142, L142, k142, n142⟩, -, X142, ⟨Lc142, hQ142, l142, y142, z142⟩, st142⟩ := Jvm.LawKit.callS X139 hx (y := (⟨"com/example/withhold/withhold/crypto/Ed25519ScalarsDigitsPinLaw", "chunkOk", "([BI)Z"⟩ : MethodName)) hown (mvT hZ (hw _ (List.mem_of_getElem? (i := 10) rfl))) (mvT hZ (hw _ (List.mem_of_getElem? (i := 11) rfl))) (mvT hZ (hw _ (List.mem_of_getElem? (i := 4) rfl))) (mvT hZ (hw _ (List.mem_of_getElem? (i := 12) rfl))) (by decide) (backOf (W := 0) (rm3 l Z a0 hw [] b131 (32 : Int32) Fd131 32 T131.heap n0 Z133 Aq131 (by decide) (by decide) R2) hZ (hw _ (List.mem_of_getElem? (i := 12) rfl)) (hw _ (List.mem_of_getElem? (i := 4) rfl)) (by decide) (by decide)) (g := (mkF m 87 #[.val (.long q1), .second, .val (.long q2), .second, .val (.long q3), .second, .val (.long q4), .second, .val (.long (v_rm0_0 q4)), .second, .val (.ref b117), .val (.ref b131), .unset, .unset, .unset, .unset, .unset, .unset, .unset, .unset, .unset, .unset, .unset, .unset] [(.int (32 : Int32)), (.ref b131)])) rfl (by rw [hml]; rfl) (argsL := [(.ref b131), (.int (32 : Int32))]) (rest := []) (lenOf pd_3 rfl) rfl (by show 2 * 0 + _ ≤ _; exact Nat.le_of_eq rfl) (hb hby at_87) (fun _ _ => ⟨rfl, hh139, (by decide : 2 + 0 ≤ _), (by decide : 96 + 0 ≤ _)⟩)
  dsimp only [Pt.U, Pt.locs, Pt.cells, Pt.slots] at X142 l142 y142 z142 st142 hQ142
  rw [l142, y142, z142] at X142
  obtain ⟨rfl, Nq142, hh142⟩ := hQ142
  have N143 := Fr.app N140 Nq142
  have X142 : Stand p l e room_1 s m _ below meth c T142 _ 2 96 := X142
  refine go _ (T142.setTop (mkF m 90 #[.val (.long q1), .second, .val (.long q2), .second, .val (.long q3), .second, .val (.long q4), .second, .val (.long (v_rm0_0 q4)), .second, .val (.ref b117), .val (.ref b131), .unset, .unset, .unset, .unset, .unset, .unset, .unset, .unset, .unset, .unset, .unset, .unset] [(.int (1 : Int32))])) (st142) ?_
  have hc144 : ¬ ((1 : Int32) = (0 : Int32)) := by decide
  refine go _ (T142.setTop (mkF m 93 #[.val (.long q1), .second, .val (.long q2), .second, .val (.long q3), .second, .val (.long q4), .second, .val (.long (v_rm0_0 q4)), .second, .val (.ref b117), .val (.ref b131), .unset, .unset, .unset, .unset, .unset, .unset, .unset, .unset, .unset, .unset, .unset, .unset] [])) (fun t k => XS.ifNo X142.here hx rfl (hb hby at_90) rfl ((if0 _ _).trans (feq hc144).1) k) ?_
  refine go _ (T142.setTop (mkF m 95 #[.val (.long q1), .second, .val (.long q2), .second, .val (.long q3), .second, .val (.long q4), .second, .val (.long (v_rm0_0 q4)), .second, .val (.ref b117), .val (.ref b131), .unset, .unset, .unset, .unset, .unset, .unset, .unset, .unset, .unset, .unset, .unset, .unset] [(.ref b131)])) (fun t k => XS.aload X142.here hx rfl (hb hby at_93) rfl rfl k) ?_
  refine go _ (T142.setTop (mkF m 97 #[.val (.long q1), .second, .val (.long q2), .second, .val (.long q3), .second, .val (.long q4), .second, .val (.long (v_rm0_0 q4)), .second, .val (.ref b117), .val (.ref b131), .unset, .unset, .unset, .unset, .unset, .unset, .unset, .unset, .unset, .unset, .unset, .unset] [(.int (48 : Int32)), (.ref b131)])) (fun t k => XS.bipush X142.here hx rfl (hb hby at_95) k) ?_
  obtain ⟨_, _, ⟨T145, L145, k145, n145⟩, -, X145, ⟨Lc145, hQ145, l145, y145, z145⟩, st145⟩ := Jvm.LawKit.callS X142 hx (y := (⟨"com/example/withhold/withhold/crypto/Ed25519ScalarsDigitsPinLaw", "chunkOk", "([BI)Z"⟩ : MethodName)) hown (mvT hZ (hw _ (List.mem_of_getElem? (i := 10) rfl))) (mvT hZ (hw _ (List.mem_of_getElem? (i := 11) rfl))) (mvT hZ (hw _ (List.mem_of_getElem? (i := 4) rfl))) (mvT hZ (hw _ (List.mem_of_getElem? (i := 12) rfl))) (by decide) (backOf (W := 0) (rm3 l Z a0 hw [] b131 (48 : Int32) Fd131 48 T131.heap n0 Z133 Aq131 (by decide) (by decide) R3) hZ (hw _ (List.mem_of_getElem? (i := 12) rfl)) (hw _ (List.mem_of_getElem? (i := 4) rfl)) (by decide) (by decide)) (g := (mkF m 97 #[.val (.long q1), .second, .val (.long q2), .second, .val (.long q3), .second, .val (.long q4), .second, .val (.long (v_rm0_0 q4)), .second, .val (.ref b117), .val (.ref b131), .unset, .unset, .unset, .unset, .unset, .unset, .unset, .unset, .unset, .unset, .unset, .unset] [(.int (48 : Int32)), (.ref b131)])) rfl (by rw [hml]; rfl) (argsL := [(.ref b131), (.int (48 : Int32))]) (rest := []) (lenOf pd_3 rfl) rfl (by show 2 * 0 + _ ≤ _; exact Nat.le_of_eq rfl) (hb hby at_97) (fun _ _ => ⟨rfl, hh142, (by decide : 2 + 0 ≤ _), (by decide : 96 + 0 ≤ _)⟩)
  dsimp only [Pt.U, Pt.locs, Pt.cells, Pt.slots] at X145 l145 y145 z145 st145 hQ145
  rw [l145, y145, z145] at X145
  obtain ⟨rfl, Nq145, hh145⟩ := hQ145
  have N146 := Fr.app N143 Nq145
  have X145 : Stand p l e room_1 s m _ below meth c T145 _ 2 96 := X145
  refine go _ (T145.setTop (mkF m 100 #[.val (.long q1), .second, .val (.long q2), .second, .val (.long q3), .second, .val (.long q4), .second, .val (.long (v_rm0_0 q4)), .second, .val (.ref b117), .val (.ref b131), .unset, .unset, .unset, .unset, .unset, .unset, .unset, .unset, .unset, .unset, .unset, .unset] [(.int (1 : Int32))])) (st145) ?_
  have hc147 : ¬ ((1 : Int32) = (0 : Int32)) := by decide
  refine go _ (T145.setTop (mkF m 103 #[.val (.long q1), .second, .val (.long q2), .second, .val (.long q3), .second, .val (.long q4), .second, .val (.long (v_rm0_0 q4)), .second, .val (.ref b117), .val (.ref b131), .unset, .unset, .unset, .unset, .unset, .unset, .unset, .unset, .unset, .unset, .unset, .unset] [])) (fun t k => XS.ifNo X145.here hx rfl (hb hby at_100) rfl ((if0 _ _).trans (feq hc147).1) k) ?_
  refine go _ (T145.setTop (mkF m 105 #[.val (.long q1), .second, .val (.long q2), .second, .val (.long q3), .second, .val (.long q4), .second, .val (.long (v_rm0_0 q4)), .second, .val (.ref b117), .val (.ref b131), .unset, .unset, .unset, .unset, .unset, .unset, .unset, .unset, .unset, .unset, .unset, .unset] [(.ref b131)])) (fun t k => XS.aload X145.here hx rfl (hb hby at_103) rfl rfl k) ?_
  refine go _ (T145.setTop (mkF m 107 #[.val (.long q1), .second, .val (.long q2), .second, .val (.long q3), .second, .val (.long q4), .second, .val (.long (v_rm0_0 q4)), .second, .val (.ref b117), .val (.ref b131), .unset, .unset, .unset, .unset, .unset, .unset, .unset, .unset, .unset, .unset, .unset, .unset] [(.int (63 : Int32)), (.ref b131)])) (fun t k => XS.bipush X145.here hx rfl (hb hby at_105) k) ?_
  refine go _ (T145.setTop (mkF m 108 #[.val (.long q1), .second, .val (.long q2), .second, .val (.long q3), .second, .val (.long q4), .second, .val (.long (v_rm0_0 q4)), .second, .val (.ref b117), .val (.ref b131), .unset, .unset, .unset, .unset, .unset, .unset, .unset, .unset, .unset, .unset, .unset, .unset] [(.int (Fd131 63))])) (own_ldB X145 hx hZ hh145 Aq131 (i := 63) (by decide) (by decide) (g := (mkF m 107 #[.val (.long q1), .second, .val (.long q2), .second, .val (.long q3), .second, .val (.long q4), .second, .val (.long (v_rm0_0 q4)), .second, .val (.ref b117), .val (.ref b131), .unset, .unset, .unset, .unset, .unset, .unset, .unset, .unset, .unset, .unset, .unset, .unset] [(.int (63 : Int32)), (.ref b131)])) rfl rfl (hb hby at_107) (v := (.int (Fd131 63))) rfl) ?_
  have hc148 : ¬ ((Fd131 63) < (0 : Int32)) := R63.1
  refine go _ (T145.setTop (mkF m 111 #[.val (.long q1), .second, .val (.long q2), .second, .val (.long q3), .second, .val (.long q4), .second, .val (.long (v_rm0_0 q4)), .second, .val (.ref b117), .val (.ref b131), .unset, .unset, .unset, .unset, .unset, .unset, .unset, .unset, .unset, .unset, .unset, .unset] [])) (fun t k => XS.ifNo X145.here hx rfl (hb hby at_108) rfl ((if0 _ _).trans (flt hc148).1) k) ?_
  refine go _ (T145.setTop (mkF m 113 #[.val (.long q1), .second, .val (.long q2), .second, .val (.long q3), .second, .val (.long q4), .second, .val (.long (v_rm0_0 q4)), .second, .val (.ref b117), .val (.ref b131), .unset, .unset, .unset, .unset, .unset, .unset, .unset, .unset, .unset, .unset, .unset, .unset] [(.ref b131)])) (fun t k => XS.aload X145.here hx rfl (hb hby at_111) rfl rfl k) ?_
  refine go _ (T145.setTop (mkF m 115 #[.val (.long q1), .second, .val (.long q2), .second, .val (.long q3), .second, .val (.long q4), .second, .val (.long (v_rm0_0 q4)), .second, .val (.ref b117), .val (.ref b131), .unset, .unset, .unset, .unset, .unset, .unset, .unset, .unset, .unset, .unset, .unset, .unset] [(.int (63 : Int32)), (.ref b131)])) (fun t k => XS.bipush X145.here hx rfl (hb hby at_113) k) ?_
  refine go _ (T145.setTop (mkF m 116 #[.val (.long q1), .second, .val (.long q2), .second, .val (.long q3), .second, .val (.long q4), .second, .val (.long (v_rm0_0 q4)), .second, .val (.ref b117), .val (.ref b131), .unset, .unset, .unset, .unset, .unset, .unset, .unset, .unset, .unset, .unset, .unset, .unset] [(.int (Fd131 63))])) (own_ldB X145 hx hZ hh145 Aq131 (i := 63) (by decide) (by decide) (g := (mkF m 115 #[.val (.long q1), .second, .val (.long q2), .second, .val (.long q3), .second, .val (.long q4), .second, .val (.long (v_rm0_0 q4)), .second, .val (.ref b117), .val (.ref b131), .unset, .unset, .unset, .unset, .unset, .unset, .unset, .unset, .unset, .unset, .unset, .unset] [(.int (63 : Int32)), (.ref b131)])) rfl rfl (hb hby at_115) (v := (.int (Fd131 63))) rfl) ?_
  refine go _ (T145.setTop (mkF m 117 #[.val (.long q1), .second, .val (.long q2), .second, .val (.long q3), .second, .val (.long q4), .second, .val (.long (v_rm0_0 q4)), .second, .val (.ref b117), .val (.ref b131), .unset, .unset, .unset, .unset, .unset, .unset, .unset, .unset, .unset, .unset, .unset, .unset] [(.int (2 : Int32)), (.int (Fd131 63))])) (fun t k => XS.iconst X145.here hx rfl (hb hby at_116) k) ?_
  have hc149 : ¬ ((2 : Int32) < (Fd131 63)) := R63.2
  refine go _ (T145.setTop (mkF m 120 #[.val (.long q1), .second, .val (.long q2), .second, .val (.long q3), .second, .val (.long q4), .second, .val (.long (v_rm0_0 q4)), .second, .val (.ref b117), .val (.ref b131), .unset, .unset, .unset, .unset, .unset, .unset, .unset, .unset, .unset, .unset, .unset, .unset] [])) (fun t k => XS.icmpNo X145.here hx rfl (hb hby at_117) rfl (flt hc149).2.2.1 k) ?_
  refine go _ (T145.setTop (mkF m 121 #[.val (.long q1), .second, .val (.long q2), .second, .val (.long q3), .second, .val (.long q4), .second, .val (.long (v_rm0_0 q4)), .second, .val (.ref b117), .val (.ref b131), .unset, .unset, .unset, .unset, .unset, .unset, .unset, .unset, .unset, .unset, .unset, .unset] [(.int (1 : Int32))])) (fun t k => XS.iconst X145.here hx rfl (hb hby at_120) k) ?_
  refine go _ (T145.setTop (mkF m 125 #[.val (.long q1), .second, .val (.long q2), .second, .val (.long q3), .second, .val (.long q4), .second, .val (.long (v_rm0_0 q4)), .second, .val (.ref b117), .val (.ref b131), .unset, .unset, .unset, .unset, .unset, .unset, .unset, .unset, .unset, .unset, .unset, .unset] [(.int (1 : Int32))])) (fun t k => XS.goto X145.here hx rfl (pc0 := 121) (pc' := 125) rfl (hb hby at_121) (by decide) (by decide) k) ?_
  refine go _ (T145.setTop (mkF m 127 #[.val (.long q1), .second, .val (.long q2), .second, .val (.long q3), .second, .val (.long q4), .second, .val (.long (v_rm0_0 q4)), .second, .val (.ref b117), .val (.ref b131), .val (.int (1 : Int32)), .unset, .unset, .unset, .unset, .unset, .unset, .unset, .unset, .unset, .unset, .unset] [])) (fun t k => XS.istore X145.here hx rfl (hb hby at_125) rfl (l' := #[.val (.long q1), .second, .val (.long q2), .second, .val (.long q3), .second, .val (.long q4), .second, .val (.long (v_rm0_0 q4)), .second, .val (.ref b117), .val (.ref b131), .val (.int (1 : Int32)), .unset, .unset, .unset, .unset, .unset, .unset, .unset, .unset, .unset, .unset, .unset]) rfl k) ?_
  refine go _ (T145.setTop (mkF m 128 #[.val (.long q1), .second, .val (.long q2), .second, .val (.long q3), .second, .val (.long q4), .second, .val (.long (v_rm0_0 q4)), .second, .val (.ref b117), .val (.ref b131), .val (.int (1 : Int32)), .unset, .unset, .unset, .unset, .unset, .unset, .unset, .unset, .unset, .unset, .unset] [(.long (0 : Int64))])) (fun t k => XS.lconst X145.here hx rfl (hb hby at_127) k) ?_
  refine go _ (T145.setTop (mkF m 130 #[.val (.long q1), .second, .val (.long q2), .second, .val (.long q3), .second, .val (.long q4), .second, .val (.long (v_rm0_0 q4)), .second, .val (.ref b117), .val (.ref b131), .val (.int (1 : Int32)), .val (.long (0 : Int64)), .second, .unset, .unset, .unset, .unset, .unset, .unset, .unset, .unset, .unset] [])) (fun t k => XS.lstore X145.here hx rfl (hb hby at_128) rfl (l' := #[.val (.long q1), .second, .val (.long q2), .second, .val (.long q3), .second, .val (.long q4), .second, .val (.long (v_rm0_0 q4)), .second, .val (.ref b117), .val (.ref b131), .val (.int (1 : Int32)), .val (.long (0 : Int64)), .second, .unset, .unset, .unset, .unset, .unset, .unset, .unset, .unset, .unset]) rfl k) ?_
  refine go _ (T145.setTop (mkF m 131 #[.val (.long q1), .second, .val (.long q2), .second, .val (.long q3), .second, .val (.long q4), .second, .val (.long (v_rm0_0 q4)), .second, .val (.ref b117), .val (.ref b131), .val (.int (1 : Int32)), .val (.long (0 : Int64)), .second, .unset, .unset, .unset, .unset, .unset, .unset, .unset, .unset, .unset] [(.long q1)])) (fun t k => XS.lloadN X145.here hx rfl (hb hby at_130) rfl k) ?_
  refine go _ (T145.setTop (mkF m 133 #[.val (.long q1), .second, .val (.long q2), .second, .val (.long q3), .second, .val (.long q4), .second, .val (.long (v_rm0_0 q4)), .second, .val (.ref b117), .val (.ref b131), .val (.int (1 : Int32)), .val (.long (0 : Int64)), .second, .unset, .unset, .unset, .unset, .unset, .unset, .unset, .unset, .unset] [(.long (0 : Int64)), (.long q1)])) (fun t k => XS.lload X145.here hx rfl (hb hby at_131) rfl k) ?_
  obtain ⟨_, _, ⟨T150, L150, k150, n150⟩, -, X150, ⟨Lc150, hQ150, l150, y150, z150⟩, st150⟩ := Jvm.LawKit.callS X145 hx (y := (⟨"com/example/withhold/withhold/crypto/Ed25519ScalarsDigitsPinLaw", "carry", "(JJ)J"⟩ : MethodName)) hown (mvT hZ (hw _ (List.mem_of_getElem? (i := 16) rfl))) (mvT hZ (hw _ (List.mem_of_getElem? (i := 17) rfl))) (mvT hZ (hw _ (List.mem_of_getElem? (i := 4) rfl))) (mvT hZ (hw _ (List.mem_of_getElem? (i := 18) rfl))) (by decide) (backOf (W := 0) (rm5 l Z a0 hw [] q1 (0 : Int64)  T131.heap n0 Z133 ) hZ (hw _ (List.mem_of_getElem? (i := 18) rfl)) (hw _ (List.mem_of_getElem? (i := 4) rfl)) (by decide) (by decide)) (g := (mkF m 133 #[.val (.long q1), .second, .val (.long q2), .second, .val (.long q3), .second, .val (.long q4), .second, .val (.long (v_rm0_0 q4)), .second, .val (.ref b117), .val (.ref b131), .val (.int (1 : Int32)), .val (.long (0 : Int64)), .second, .unset, .unset, .unset, .unset, .unset, .unset, .unset, .unset, .unset] [(.long (0 : Int64)), (.long q1)])) rfl (by rw [hml]; rfl) (argsL := [(.long q1), (.long (0 : Int64))]) (rest := []) (lenOf pd_5 rfl) rfl (by show 2 * 0 + _ ≤ _; exact Nat.le_of_eq rfl) (hb hby at_133) (fun _ _ => ⟨rfl, hh145, (by decide : 2 + 0 ≤ _), (by decide : 96 + 0 ≤ _)⟩)
  dsimp only [Pt.U, Pt.locs, Pt.cells, Pt.slots] at X150 l150 y150 z150 st150 hQ150
  rw [l150, y150, z150] at X150
  obtain ⟨rfl, Nq150, hh150⟩ := hQ150
  have N151 := Fr.app N146 Nq150
  have X150 : Stand p l e room_1 s m _ below meth c T150 _ 2 96 := X150
  refine go _ (T150.setTop (mkF m 136 #[.val (.long q1), .second, .val (.long q2), .second, .val (.long q3), .second, .val (.long q4), .second, .val (.long (v_rm0_0 q4)), .second, .val (.ref b117), .val (.ref b131), .val (.int (1 : Int32)), .val (.long (0 : Int64)), .second, .unset, .unset, .unset, .unset, .unset, .unset, .unset, .unset, .unset] [(.long (f_rm5 q1 (0 : Int64)))])) (st150) ?_
  refine go _ (T150.setTop (mkF m 138 #[.val (.long q1), .second, .val (.long q2), .second, .val (.long q3), .second, .val (.long q4), .second, .val (.long (v_rm0_0 q4)), .second, .val (.ref b117), .val (.ref b131), .val (.int (1 : Int32)), .val (.long (0 : Int64)), .second, .val (.long (f_rm5 q1 (0 : Int64))), .second, .unset, .unset, .unset, .unset, .unset, .unset, .unset] [])) (fun t k => XS.lstore X150.here hx rfl (hb hby at_136) rfl (l' := #[.val (.long q1), .second, .val (.long q2), .second, .val (.long q3), .second, .val (.long q4), .second, .val (.long (v_rm0_0 q4)), .second, .val (.ref b117), .val (.ref b131), .val (.int (1 : Int32)), .val (.long (0 : Int64)), .second, .val (.long (f_rm5 q1 (0 : Int64))), .second, .unset, .unset, .unset, .unset, .unset, .unset, .unset]) rfl k) ?_
  refine go _ (T150.setTop (mkF m 139 #[.val (.long q1), .second, .val (.long q2), .second, .val (.long q3), .second, .val (.long q4), .second, .val (.long (v_rm0_0 q4)), .second, .val (.ref b117), .val (.ref b131), .val (.int (1 : Int32)), .val (.long (0 : Int64)), .second, .val (.long (f_rm5 q1 (0 : Int64))), .second, .unset, .unset, .unset, .unset, .unset, .unset, .unset] [(.long q2)])) (fun t k => XS.lloadN X150.here hx rfl (hb hby at_138) rfl k) ?_
  refine go _ (T150.setTop (mkF m 141 #[.val (.long q1), .second, .val (.long q2), .second, .val (.long q3), .second, .val (.long q4), .second, .val (.long (v_rm0_0 q4)), .second, .val (.ref b117), .val (.ref b131), .val (.int (1 : Int32)), .val (.long (0 : Int64)), .second, .val (.long (f_rm5 q1 (0 : Int64))), .second, .unset, .unset, .unset, .unset, .unset, .unset, .unset] [(.long (f_rm5 q1 (0 : Int64))), (.long q2)])) (fun t k => XS.lload X150.here hx rfl (hb hby at_139) rfl k) ?_
  obtain ⟨_, _, ⟨T152, L152, k152, n152⟩, -, X152, ⟨Lc152, hQ152, l152, y152, z152⟩, st152⟩ := Jvm.LawKit.callS X150 hx (y := (⟨"com/example/withhold/withhold/crypto/Ed25519ScalarsDigitsPinLaw", "carry", "(JJ)J"⟩ : MethodName)) hown (mvT hZ (hw _ (List.mem_of_getElem? (i := 16) rfl))) (mvT hZ (hw _ (List.mem_of_getElem? (i := 17) rfl))) (mvT hZ (hw _ (List.mem_of_getElem? (i := 4) rfl))) (mvT hZ (hw _ (List.mem_of_getElem? (i := 18) rfl))) (by decide) (backOf (W := 0) (rm5 l Z a0 hw [] q2 (f_rm5 q1 (0 : Int64))  T131.heap n0 Z133 ) hZ (hw _ (List.mem_of_getElem? (i := 18) rfl)) (hw _ (List.mem_of_getElem? (i := 4) rfl)) (by decide) (by decide)) (g := (mkF m 141 #[.val (.long q1), .second, .val (.long q2), .second, .val (.long q3), .second, .val (.long q4), .second, .val (.long (v_rm0_0 q4)), .second, .val (.ref b117), .val (.ref b131), .val (.int (1 : Int32)), .val (.long (0 : Int64)), .second, .val (.long (f_rm5 q1 (0 : Int64))), .second, .unset, .unset, .unset, .unset, .unset, .unset, .unset] [(.long (f_rm5 q1 (0 : Int64))), (.long q2)])) rfl (by rw [hml]; rfl) (argsL := [(.long q2), (.long (f_rm5 q1 (0 : Int64)))]) (rest := []) (lenOf pd_5 rfl) rfl (by show 2 * 0 + _ ≤ _; exact Nat.le_of_eq rfl) (hb hby at_141) (fun _ _ => ⟨rfl, hh150, (by decide : 2 + 0 ≤ _), (by decide : 96 + 0 ≤ _)⟩)
  dsimp only [Pt.U, Pt.locs, Pt.cells, Pt.slots] at X152 l152 y152 z152 st152 hQ152
  rw [l152, y152, z152] at X152
  obtain ⟨rfl, Nq152, hh152⟩ := hQ152
  have N153 := Fr.app N151 Nq152
  have X152 : Stand p l e room_1 s m _ below meth c T152 _ 2 96 := X152
  refine go _ (T152.setTop (mkF m 144 #[.val (.long q1), .second, .val (.long q2), .second, .val (.long q3), .second, .val (.long q4), .second, .val (.long (v_rm0_0 q4)), .second, .val (.ref b117), .val (.ref b131), .val (.int (1 : Int32)), .val (.long (0 : Int64)), .second, .val (.long (f_rm5 q1 (0 : Int64))), .second, .unset, .unset, .unset, .unset, .unset, .unset, .unset] [(.long (f_rm5 q2 (f_rm5 q1 (0 : Int64))))])) (st152) ?_
  refine go _ (T152.setTop (mkF m 146 #[.val (.long q1), .second, .val (.long q2), .second, .val (.long q3), .second, .val (.long q4), .second, .val (.long (v_rm0_0 q4)), .second, .val (.ref b117), .val (.ref b131), .val (.int (1 : Int32)), .val (.long (0 : Int64)), .second, .val (.long (f_rm5 q1 (0 : Int64))), .second, .val (.long (v_rm0_1 q2 q1)), .second, .unset, .unset, .unset, .unset, .unset] [])) (fun t k => XS.lstore X152.here hx rfl (hb hby at_144) rfl (l' := #[.val (.long q1), .second, .val (.long q2), .second, .val (.long q3), .second, .val (.long q4), .second, .val (.long (v_rm0_0 q4)), .second, .val (.ref b117), .val (.ref b131), .val (.int (1 : Int32)), .val (.long (0 : Int64)), .second, .val (.long (f_rm5 q1 (0 : Int64))), .second, .val (.long (v_rm0_1 q2 q1)), .second, .unset, .unset, .unset, .unset, .unset]) rfl k) ?_
  refine go _ (T152.setTop (mkF m 148 #[.val (.long q1), .second, .val (.long q2), .second, .val (.long q3), .second, .val (.long q4), .second, .val (.long (v_rm0_0 q4)), .second, .val (.ref b117), .val (.ref b131), .val (.int (1 : Int32)), .val (.long (0 : Int64)), .second, .val (.long (f_rm5 q1 (0 : Int64))), .second, .val (.long (v_rm0_1 q2 q1)), .second, .unset, .unset, .unset, .unset, .unset] [(.long q3)])) (fun t k => XS.lload X152.here hx rfl (hb hby at_146) rfl k) ?_
  refine go _ (T152.setTop (mkF m 150 #[.val (.long q1), .second, .val (.long q2), .second, .val (.long q3), .second, .val (.long q4), .second, .val (.long (v_rm0_0 q4)), .second, .val (.ref b117), .val (.ref b131), .val (.int (1 : Int32)), .val (.long (0 : Int64)), .second, .val (.long (f_rm5 q1 (0 : Int64))), .second, .val (.long (v_rm0_1 q2 q1)), .second, .unset, .unset, .unset, .unset, .unset] [(.long (v_rm0_1 q2 q1)), (.long q3)])) (fun t k => XS.lload X152.here hx rfl (hb hby at_148) rfl k) ?_
  obtain ⟨_, _, ⟨T154, L154, k154, n154⟩, -, X154, ⟨Lc154, hQ154, l154, y154, z154⟩, st154⟩ := Jvm.LawKit.callS X152 hx (y := (⟨"com/example/withhold/withhold/crypto/Ed25519ScalarsDigitsPinLaw", "carry", "(JJ)J"⟩ : MethodName)) hown (mvT hZ (hw _ (List.mem_of_getElem? (i := 16) rfl))) (mvT hZ (hw _ (List.mem_of_getElem? (i := 17) rfl))) (mvT hZ (hw _ (List.mem_of_getElem? (i := 4) rfl))) (mvT hZ (hw _ (List.mem_of_getElem? (i := 18) rfl))) (by decide) (backOf (W := 0) (rm5 l Z a0 hw [] q3 (v_rm0_1 q2 q1)  T131.heap n0 Z133 ) hZ (hw _ (List.mem_of_getElem? (i := 18) rfl)) (hw _ (List.mem_of_getElem? (i := 4) rfl)) (by decide) (by decide)) (g := (mkF m 150 #[.val (.long q1), .second, .val (.long q2), .second, .val (.long q3), .second, .val (.long q4), .second, .val (.long (v_rm0_0 q4)), .second, .val (.ref b117), .val (.ref b131), .val (.int (1 : Int32)), .val (.long (0 : Int64)), .second, .val (.long (f_rm5 q1 (0 : Int64))), .second, .val (.long (v_rm0_1 q2 q1)), .second, .unset, .unset, .unset, .unset, .unset] [(.long (v_rm0_1 q2 q1)), (.long q3)])) rfl (by rw [hml]; rfl) (argsL := [(.long q3), (.long (v_rm0_1 q2 q1))]) (rest := []) (lenOf pd_5 rfl) rfl (by show 2 * 0 + _ ≤ _; exact Nat.le_of_eq rfl) (hb hby at_150) (fun _ _ => ⟨rfl, hh152, (by decide : 2 + 0 ≤ _), (by decide : 96 + 0 ≤ _)⟩)
  dsimp only [Pt.U, Pt.locs, Pt.cells, Pt.slots] at X154 l154 y154 z154 st154 hQ154
  rw [l154, y154, z154] at X154
  obtain ⟨rfl, Nq154, hh154⟩ := hQ154
  have N155 := Fr.app N153 Nq154
  have X154 : Stand p l e room_1 s m _ below meth c T154 _ 2 96 := X154
  refine go _ (T154.setTop (mkF m 153 #[.val (.long q1), .second, .val (.long q2), .second, .val (.long q3), .second, .val (.long q4), .second, .val (.long (v_rm0_0 q4)), .second, .val (.ref b117), .val (.ref b131), .val (.int (1 : Int32)), .val (.long (0 : Int64)), .second, .val (.long (f_rm5 q1 (0 : Int64))), .second, .val (.long (v_rm0_1 q2 q1)), .second, .unset, .unset, .unset, .unset, .unset] [(.long (f_rm5 q3 (v_rm0_1 q2 q1)))])) (st154) ?_
  refine go _ (T154.setTop (mkF m 155 #[.val (.long q1), .second, .val (.long q2), .second, .val (.long q3), .second, .val (.long q4), .second, .val (.long (v_rm0_0 q4)), .second, .val (.ref b117), .val (.ref b131), .val (.int (1 : Int32)), .val (.long (0 : Int64)), .second, .val (.long (f_rm5 q1 (0 : Int64))), .second, .val (.long (v_rm0_1 q2 q1)), .second, .val (.long (f_rm5 q3 (v_rm0_1 q2 q1))), .second, .unset, .unset, .unset] [])) (fun t k => XS.lstore X154.here hx rfl (hb hby at_153) rfl (l' := #[.val (.long q1), .second, .val (.long q2), .second, .val (.long q3), .second, .val (.long q4), .second, .val (.long (v_rm0_0 q4)), .second, .val (.ref b117), .val (.ref b131), .val (.int (1 : Int32)), .val (.long (0 : Int64)), .second, .val (.long (f_rm5 q1 (0 : Int64))), .second, .val (.long (v_rm0_1 q2 q1)), .second, .val (.long (f_rm5 q3 (v_rm0_1 q2 q1))), .second, .unset, .unset, .unset]) rfl k) ?_
  refine go _ (T154.setTop (mkF m 157 #[.val (.long q1), .second, .val (.long q2), .second, .val (.long q3), .second, .val (.long q4), .second, .val (.long (v_rm0_0 q4)), .second, .val (.ref b117), .val (.ref b131), .val (.int (1 : Int32)), .val (.long (0 : Int64)), .second, .val (.long (f_rm5 q1 (0 : Int64))), .second, .val (.long (v_rm0_1 q2 q1)), .second, .val (.long (f_rm5 q3 (v_rm0_1 q2 q1))), .second, .unset, .unset, .unset] [(.long (v_rm0_0 q4))])) (fun t k => XS.lload X154.here hx rfl (hb hby at_155) rfl k) ?_
  refine go _ (T154.setTop (mkF m 159 #[.val (.long q1), .second, .val (.long q2), .second, .val (.long q3), .second, .val (.long q4), .second, .val (.long (v_rm0_0 q4)), .second, .val (.ref b117), .val (.ref b131), .val (.int (1 : Int32)), .val (.long (0 : Int64)), .second, .val (.long (f_rm5 q1 (0 : Int64))), .second, .val (.long (v_rm0_1 q2 q1)), .second, .val (.long (f_rm5 q3 (v_rm0_1 q2 q1))), .second, .unset, .unset, .unset] [(.long (f_rm5 q3 (v_rm0_1 q2 q1))), (.long (v_rm0_0 q4))])) (fun t k => XS.lload X154.here hx rfl (hb hby at_157) rfl k) ?_
  obtain ⟨_, _, ⟨T156, L156, k156, n156⟩, -, X156, ⟨Lc156, hQ156, l156, y156, z156⟩, st156⟩ := Jvm.LawKit.callS X154 hx (y := (⟨"com/example/withhold/withhold/crypto/Ed25519ScalarsDigitsPinLaw", "carry", "(JJ)J"⟩ : MethodName)) hown (mvT hZ (hw _ (List.mem_of_getElem? (i := 16) rfl))) (mvT hZ (hw _ (List.mem_of_getElem? (i := 17) rfl))) (mvT hZ (hw _ (List.mem_of_getElem? (i := 4) rfl))) (mvT hZ (hw _ (List.mem_of_getElem? (i := 18) rfl))) (by decide) (backOf (W := 0) (rm5 l Z a0 hw [] (v_rm0_0 q4) (f_rm5 q3 (v_rm0_1 q2 q1))  T131.heap n0 Z133 ) hZ (hw _ (List.mem_of_getElem? (i := 18) rfl)) (hw _ (List.mem_of_getElem? (i := 4) rfl)) (by decide) (by decide)) (g := (mkF m 159 #[.val (.long q1), .second, .val (.long q2), .second, .val (.long q3), .second, .val (.long q4), .second, .val (.long (v_rm0_0 q4)), .second, .val (.ref b117), .val (.ref b131), .val (.int (1 : Int32)), .val (.long (0 : Int64)), .second, .val (.long (f_rm5 q1 (0 : Int64))), .second, .val (.long (v_rm0_1 q2 q1)), .second, .val (.long (f_rm5 q3 (v_rm0_1 q2 q1))), .second, .unset, .unset, .unset] [(.long (f_rm5 q3 (v_rm0_1 q2 q1))), (.long (v_rm0_0 q4))])) rfl (by rw [hml]; rfl) (argsL := [(.long (v_rm0_0 q4)), (.long (f_rm5 q3 (v_rm0_1 q2 q1)))]) (rest := []) (lenOf pd_5 rfl) rfl (by show 2 * 0 + _ ≤ _; exact Nat.le_of_eq rfl) (hb hby at_159) (fun _ _ => ⟨rfl, hh154, (by decide : 2 + 0 ≤ _), (by decide : 96 + 0 ≤ _)⟩)
  dsimp only [Pt.U, Pt.locs, Pt.cells, Pt.slots] at X156 l156 y156 z156 st156 hQ156
  rw [l156, y156, z156] at X156
  obtain ⟨rfl, Nq156, hh156⟩ := hQ156
  have N157 := Fr.app N155 Nq156
  have X156 : Stand p l e room_1 s m _ below meth c T156 _ 2 96 := X156
  refine go _ (T156.setTop (mkF m 162 #[.val (.long q1), .second, .val (.long q2), .second, .val (.long q3), .second, .val (.long q4), .second, .val (.long (v_rm0_0 q4)), .second, .val (.ref b117), .val (.ref b131), .val (.int (1 : Int32)), .val (.long (0 : Int64)), .second, .val (.long (f_rm5 q1 (0 : Int64))), .second, .val (.long (v_rm0_1 q2 q1)), .second, .val (.long (f_rm5 q3 (v_rm0_1 q2 q1))), .second, .unset, .unset, .unset] [(.long (f_rm5 (v_rm0_0 q4) (f_rm5 q3 (v_rm0_1 q2 q1))))])) (st156) ?_
  refine go _ (T156.setTop (mkF m 164 #[.val (.long q1), .second, .val (.long q2), .second, .val (.long q3), .second, .val (.long q4), .second, .val (.long (v_rm0_0 q4)), .second, .val (.ref b117), .val (.ref b131), .val (.int (1 : Int32)), .val (.long (0 : Int64)), .second, .val (.long (f_rm5 q1 (0 : Int64))), .second, .val (.long (v_rm0_1 q2 q1)), .second, .val (.long (f_rm5 q3 (v_rm0_1 q2 q1))), .second, .val (.long (v_rm0_2 q4 q3 q2 q1)), .second, .unset] [])) (fun t k => XS.lstore X156.here hx rfl (hb hby at_162) rfl (l' := #[.val (.long q1), .second, .val (.long q2), .second, .val (.long q3), .second, .val (.long q4), .second, .val (.long (v_rm0_0 q4)), .second, .val (.ref b117), .val (.ref b131), .val (.int (1 : Int32)), .val (.long (0 : Int64)), .second, .val (.long (f_rm5 q1 (0 : Int64))), .second, .val (.long (v_rm0_1 q2 q1)), .second, .val (.long (f_rm5 q3 (v_rm0_1 q2 q1))), .second, .val (.long (v_rm0_2 q4 q3 q2 q1)), .second, .unset]) rfl k) ?_
  refine go _ (T156.setTop (mkF m 166 #[.val (.long q1), .second, .val (.long q2), .second, .val (.long q3), .second, .val (.long q4), .second, .val (.long (v_rm0_0 q4)), .second, .val (.ref b117), .val (.ref b131), .val (.int (1 : Int32)), .val (.long (0 : Int64)), .second, .val (.long (f_rm5 q1 (0 : Int64))), .second, .val (.long (v_rm0_1 q2 q1)), .second, .val (.long (f_rm5 q3 (v_rm0_1 q2 q1))), .second, .val (.long (v_rm0_2 q4 q3 q2 q1)), .second, .unset] [(.ref b131)])) (fun t k => XS.aload X156.here hx rfl (hb hby at_164) rfl rfl k) ?_
  refine go _ (T156.setTop (mkF m 167 #[.val (.long q1), .second, .val (.long q2), .second, .val (.long q3), .second, .val (.long q4), .second, .val (.long (v_rm0_0 q4)), .second, .val (.ref b117), .val (.ref b131), .val (.int (1 : Int32)), .val (.long (0 : Int64)), .second, .val (.long (f_rm5 q1 (0 : Int64))), .second, .val (.long (v_rm0_1 q2 q1)), .second, .val (.long (f_rm5 q3 (v_rm0_1 q2 q1))), .second, .val (.long (v_rm0_2 q4 q3 q2 q1)), .second, .unset] [(.int (0 : Int32)), (.ref b131)])) (fun t k => XS.iconst X156.here hx rfl (hb hby at_166) k) ?_
  obtain ⟨_, _, ⟨T158, L158, k158, n158⟩, -, X158, ⟨Lc158, hQ158, l158, y158, z158⟩, st158⟩ := Jvm.LawKit.callS X156 hx (y := (⟨"com/example/withhold/withhold/crypto/Ed25519ScalarsDigitsPinLaw", "horner", "([BI)J"⟩ : MethodName)) hown (mvT hZ (hw _ (List.mem_of_getElem? (i := 22) rfl))) (mvT hZ (hw _ (List.mem_of_getElem? (i := 23) rfl))) (mvT hZ (hw _ (List.mem_of_getElem? (i := 4) rfl))) (mvT hZ (hw _ (List.mem_of_getElem? (i := 24) rfl))) (by decide) (backOf (W := 0) (rm6 l Z a0 hw [] b131 (0 : Int32) Fd131 0 T131.heap n0 Z133 Aq131 (by decide) (by decide)) hZ (hw _ (List.mem_of_getElem? (i := 24) rfl)) (hw _ (List.mem_of_getElem? (i := 4) rfl)) (by decide) (by decide)) (g := (mkF m 167 #[.val (.long q1), .second, .val (.long q2), .second, .val (.long q3), .second, .val (.long q4), .second, .val (.long (v_rm0_0 q4)), .second, .val (.ref b117), .val (.ref b131), .val (.int (1 : Int32)), .val (.long (0 : Int64)), .second, .val (.long (f_rm5 q1 (0 : Int64))), .second, .val (.long (v_rm0_1 q2 q1)), .second, .val (.long (f_rm5 q3 (v_rm0_1 q2 q1))), .second, .val (.long (v_rm0_2 q4 q3 q2 q1)), .second, .unset] [(.int (0 : Int32)), (.ref b131)])) rfl (by rw [hml]; rfl) (argsL := [(.ref b131), (.int (0 : Int32))]) (rest := []) (lenOf pd_6 rfl) rfl (by show 2 * 0 + _ ≤ _; exact Nat.le_of_eq rfl) (hb hby at_167) (fun _ _ => ⟨rfl, hh156, (by decide : 2 + 0 ≤ _), (by decide : 96 + 0 ≤ _)⟩)
  dsimp only [Pt.U, Pt.locs, Pt.cells, Pt.slots] at X158 l158 y158 z158 st158 hQ158
  rw [l158, y158, z158] at X158
  obtain ⟨rfl, Nq158, hh158⟩ := hQ158
  have N159 := Fr.app N157 Nq158
  have X158 : Stand p l e room_1 s m _ below meth c T158 _ 2 96 := X158
  refine go _ (T158.setTop (mkF m 170 #[.val (.long q1), .second, .val (.long q2), .second, .val (.long q3), .second, .val (.long q4), .second, .val (.long (v_rm0_0 q4)), .second, .val (.ref b117), .val (.ref b131), .val (.int (1 : Int32)), .val (.long (0 : Int64)), .second, .val (.long (f_rm5 q1 (0 : Int64))), .second, .val (.long (v_rm0_1 q2 q1)), .second, .val (.long (f_rm5 q3 (v_rm0_1 q2 q1))), .second, .val (.long (v_rm0_2 q4 q3 q2 q1)), .second, .unset] [(.long (own_h Fd131 0))])) (st158) ?_
  refine go _ (T158.setTop (mkF m 171 #[.val (.long q1), .second, .val (.long q2), .second, .val (.long q3), .second, .val (.long q4), .second, .val (.long (v_rm0_0 q4)), .second, .val (.ref b117), .val (.ref b131), .val (.int (1 : Int32)), .val (.long (0 : Int64)), .second, .val (.long (f_rm5 q1 (0 : Int64))), .second, .val (.long (v_rm0_1 q2 q1)), .second, .val (.long (f_rm5 q3 (v_rm0_1 q2 q1))), .second, .val (.long (v_rm0_2 q4 q3 q2 q1)), .second, .unset] [(.long q1), (.long (own_h Fd131 0))])) (fun t k => XS.lloadN X158.here hx rfl (hb hby at_170) rfl k) ?_
  refine go _ (T158.setTop (mkF m 173 #[.val (.long q1), .second, .val (.long q2), .second, .val (.long q3), .second, .val (.long q4), .second, .val (.long (v_rm0_0 q4)), .second, .val (.ref b117), .val (.ref b131), .val (.int (1 : Int32)), .val (.long (0 : Int64)), .second, .val (.long (f_rm5 q1 (0 : Int64))), .second, .val (.long (v_rm0_1 q2 q1)), .second, .val (.long (f_rm5 q3 (v_rm0_1 q2 q1))), .second, .val (.long (v_rm0_2 q4 q3 q2 q1)), .second, .unset] [(.long (0 : Int64)), (.long q1), (.long (own_h Fd131 0))])) (fun t k => XS.lload X158.here hx rfl (hb hby at_171) rfl k) ?_
  refine go _ (T158.setTop (mkF m 174 #[.val (.long q1), .second, .val (.long q2), .second, .val (.long q3), .second, .val (.long q4), .second, .val (.long (v_rm0_0 q4)), .second, .val (.ref b117), .val (.ref b131), .val (.int (1 : Int32)), .val (.long (0 : Int64)), .second, .val (.long (f_rm5 q1 (0 : Int64))), .second, .val (.long (v_rm0_1 q2 q1)), .second, .val (.long (f_rm5 q3 (v_rm0_1 q2 q1))), .second, .val (.long (v_rm0_2 q4 q3 q2 q1)), .second, .unset] [(.long (q1 + (0 : Int64))), (.long (own_h Fd131 0))])) (fun t k => XS.ladd X158.here hx rfl (hb hby at_173) rfl k) ?_
  refine go _ (T158.setTop (mkF m 175 #[.val (.long q1), .second, .val (.long q2), .second, .val (.long q3), .second, .val (.long q4), .second, .val (.long (v_rm0_0 q4)), .second, .val (.ref b117), .val (.ref b131), .val (.int (1 : Int32)), .val (.long (0 : Int64)), .second, .val (.long (f_rm5 q1 (0 : Int64))), .second, .val (.long (v_rm0_1 q2 q1)), .second, .val (.long (f_rm5 q3 (v_rm0_1 q2 q1))), .second, .val (.long (v_rm0_2 q4 q3 q2 q1)), .second, .unset] [(.int (lcmpW (own_h Fd131 0) (q1 + (0 : Int64))))])) (fun t k => XS.lcmp X158.here hx rfl (hb hby at_174) rfl k) ?_
  have hc160 : ((own_h Fd131 0) = (q1 + (0 : Int64))) := E0
  refine go _ (T158.setTop (mkF m 178 #[.val (.long q1), .second, .val (.long q2), .second, .val (.long q3), .second, .val (.long q4), .second, .val (.long (v_rm0_0 q4)), .second, .val (.ref b117), .val (.ref b131), .val (.int (1 : Int32)), .val (.long (0 : Int64)), .second, .val (.long (f_rm5 q1 (0 : Int64))), .second, .val (.long (v_rm0_1 q2 q1)), .second, .val (.long (f_rm5 q3 (v_rm0_1 q2 q1))), .second, .val (.long (v_rm0_2 q4 q3 q2 q1)), .second, .unset] [])) (fun t k => XS.ifNo X158.here hx rfl (hb hby at_175) rfl ((if0 _ _).trans (teq ((lw_eq (own_h Fd131 0) (q1 + (0 : Int64))).mpr hc160)).2) k) ?_
  refine go _ (T158.setTop (mkF m 180 #[.val (.long q1), .second, .val (.long q2), .second, .val (.long q3), .second, .val (.long q4), .second, .val (.long (v_rm0_0 q4)), .second, .val (.ref b117), .val (.ref b131), .val (.int (1 : Int32)), .val (.long (0 : Int64)), .second, .val (.long (f_rm5 q1 (0 : Int64))), .second, .val (.long (v_rm0_1 q2 q1)), .second, .val (.long (f_rm5 q3 (v_rm0_1 q2 q1))), .second, .val (.long (v_rm0_2 q4 q3 q2 q1)), .second, .unset] [(.ref b131)])) (fun t k => XS.aload X158.here hx rfl (hb hby at_178) rfl rfl k) ?_
  refine go _ (T158.setTop (mkF m 182 #[.val (.long q1), .second, .val (.long q2), .second, .val (.long q3), .second, .val (.long q4), .second, .val (.long (v_rm0_0 q4)), .second, .val (.ref b117), .val (.ref b131), .val (.int (1 : Int32)), .val (.long (0 : Int64)), .second, .val (.long (f_rm5 q1 (0 : Int64))), .second, .val (.long (v_rm0_1 q2 q1)), .second, .val (.long (f_rm5 q3 (v_rm0_1 q2 q1))), .second, .val (.long (v_rm0_2 q4 q3 q2 q1)), .second, .unset] [(.int (16 : Int32)), (.ref b131)])) (fun t k => XS.bipush X158.here hx rfl (hb hby at_180) k) ?_
  obtain ⟨_, _, ⟨T161, L161, k161, n161⟩, -, X161, ⟨Lc161, hQ161, l161, y161, z161⟩, st161⟩ := Jvm.LawKit.callS X158 hx (y := (⟨"com/example/withhold/withhold/crypto/Ed25519ScalarsDigitsPinLaw", "horner", "([BI)J"⟩ : MethodName)) hown (mvT hZ (hw _ (List.mem_of_getElem? (i := 22) rfl))) (mvT hZ (hw _ (List.mem_of_getElem? (i := 23) rfl))) (mvT hZ (hw _ (List.mem_of_getElem? (i := 4) rfl))) (mvT hZ (hw _ (List.mem_of_getElem? (i := 24) rfl))) (by decide) (backOf (W := 0) (rm6 l Z a0 hw [] b131 (16 : Int32) Fd131 16 T131.heap n0 Z133 Aq131 (by decide) (by decide)) hZ (hw _ (List.mem_of_getElem? (i := 24) rfl)) (hw _ (List.mem_of_getElem? (i := 4) rfl)) (by decide) (by decide)) (g := (mkF m 182 #[.val (.long q1), .second, .val (.long q2), .second, .val (.long q3), .second, .val (.long q4), .second, .val (.long (v_rm0_0 q4)), .second, .val (.ref b117), .val (.ref b131), .val (.int (1 : Int32)), .val (.long (0 : Int64)), .second, .val (.long (f_rm5 q1 (0 : Int64))), .second, .val (.long (v_rm0_1 q2 q1)), .second, .val (.long (f_rm5 q3 (v_rm0_1 q2 q1))), .second, .val (.long (v_rm0_2 q4 q3 q2 q1)), .second, .unset] [(.int (16 : Int32)), (.ref b131)])) rfl (by rw [hml]; rfl) (argsL := [(.ref b131), (.int (16 : Int32))]) (rest := []) (lenOf pd_6 rfl) rfl (by show 2 * 0 + _ ≤ _; exact Nat.le_of_eq rfl) (hb hby at_182) (fun _ _ => ⟨rfl, hh158, (by decide : 2 + 0 ≤ _), (by decide : 96 + 0 ≤ _)⟩)
  dsimp only [Pt.U, Pt.locs, Pt.cells, Pt.slots] at X161 l161 y161 z161 st161 hQ161
  rw [l161, y161, z161] at X161
  obtain ⟨rfl, Nq161, hh161⟩ := hQ161
  have N162 := Fr.app N159 Nq161
  have X161 : Stand p l e room_1 s m _ below meth c T161 _ 2 96 := X161
  refine go _ (T161.setTop (mkF m 185 #[.val (.long q1), .second, .val (.long q2), .second, .val (.long q3), .second, .val (.long q4), .second, .val (.long (v_rm0_0 q4)), .second, .val (.ref b117), .val (.ref b131), .val (.int (1 : Int32)), .val (.long (0 : Int64)), .second, .val (.long (f_rm5 q1 (0 : Int64))), .second, .val (.long (v_rm0_1 q2 q1)), .second, .val (.long (f_rm5 q3 (v_rm0_1 q2 q1))), .second, .val (.long (v_rm0_2 q4 q3 q2 q1)), .second, .unset] [(.long (own_h Fd131 16))])) (st161) ?_
  refine go _ (T161.setTop (mkF m 186 #[.val (.long q1), .second, .val (.long q2), .second, .val (.long q3), .second, .val (.long q4), .second, .val (.long (v_rm0_0 q4)), .second, .val (.ref b117), .val (.ref b131), .val (.int (1 : Int32)), .val (.long (0 : Int64)), .second, .val (.long (f_rm5 q1 (0 : Int64))), .second, .val (.long (v_rm0_1 q2 q1)), .second, .val (.long (f_rm5 q3 (v_rm0_1 q2 q1))), .second, .val (.long (v_rm0_2 q4 q3 q2 q1)), .second, .unset] [(.long q2), (.long (own_h Fd131 16))])) (fun t k => XS.lloadN X161.here hx rfl (hb hby at_185) rfl k) ?_
  refine go _ (T161.setTop (mkF m 188 #[.val (.long q1), .second, .val (.long q2), .second, .val (.long q3), .second, .val (.long q4), .second, .val (.long (v_rm0_0 q4)), .second, .val (.ref b117), .val (.ref b131), .val (.int (1 : Int32)), .val (.long (0 : Int64)), .second, .val (.long (f_rm5 q1 (0 : Int64))), .second, .val (.long (v_rm0_1 q2 q1)), .second, .val (.long (f_rm5 q3 (v_rm0_1 q2 q1))), .second, .val (.long (v_rm0_2 q4 q3 q2 q1)), .second, .unset] [(.long (f_rm5 q1 (0 : Int64))), (.long q2), (.long (own_h Fd131 16))])) (fun t k => XS.lload X161.here hx rfl (hb hby at_186) rfl k) ?_
  refine go _ (T161.setTop (mkF m 189 #[.val (.long q1), .second, .val (.long q2), .second, .val (.long q3), .second, .val (.long q4), .second, .val (.long (v_rm0_0 q4)), .second, .val (.ref b117), .val (.ref b131), .val (.int (1 : Int32)), .val (.long (0 : Int64)), .second, .val (.long (f_rm5 q1 (0 : Int64))), .second, .val (.long (v_rm0_1 q2 q1)), .second, .val (.long (f_rm5 q3 (v_rm0_1 q2 q1))), .second, .val (.long (v_rm0_2 q4 q3 q2 q1)), .second, .unset] [(.long (q2 + (f_rm5 q1 (0 : Int64)))), (.long (own_h Fd131 16))])) (fun t k => XS.ladd X161.here hx rfl (hb hby at_188) rfl k) ?_
  refine go _ (T161.setTop (mkF m 190 #[.val (.long q1), .second, .val (.long q2), .second, .val (.long q3), .second, .val (.long q4), .second, .val (.long (v_rm0_0 q4)), .second, .val (.ref b117), .val (.ref b131), .val (.int (1 : Int32)), .val (.long (0 : Int64)), .second, .val (.long (f_rm5 q1 (0 : Int64))), .second, .val (.long (v_rm0_1 q2 q1)), .second, .val (.long (f_rm5 q3 (v_rm0_1 q2 q1))), .second, .val (.long (v_rm0_2 q4 q3 q2 q1)), .second, .unset] [(.int (lcmpW (own_h Fd131 16) (q2 + (f_rm5 q1 (0 : Int64)))))])) (fun t k => XS.lcmp X161.here hx rfl (hb hby at_189) rfl k) ?_
  have hc163 : ((own_h Fd131 16) = (q2 + (f_rm5 q1 (0 : Int64)))) := E1
  refine go _ (T161.setTop (mkF m 193 #[.val (.long q1), .second, .val (.long q2), .second, .val (.long q3), .second, .val (.long q4), .second, .val (.long (v_rm0_0 q4)), .second, .val (.ref b117), .val (.ref b131), .val (.int (1 : Int32)), .val (.long (0 : Int64)), .second, .val (.long (f_rm5 q1 (0 : Int64))), .second, .val (.long (v_rm0_1 q2 q1)), .second, .val (.long (f_rm5 q3 (v_rm0_1 q2 q1))), .second, .val (.long (v_rm0_2 q4 q3 q2 q1)), .second, .unset] [])) (fun t k => XS.ifNo X161.here hx rfl (hb hby at_190) rfl ((if0 _ _).trans (teq ((lw_eq (own_h Fd131 16) (q2 + (f_rm5 q1 (0 : Int64)))).mpr hc163)).2) k) ?_
  refine go _ (T161.setTop (mkF m 195 #[.val (.long q1), .second, .val (.long q2), .second, .val (.long q3), .second, .val (.long q4), .second, .val (.long (v_rm0_0 q4)), .second, .val (.ref b117), .val (.ref b131), .val (.int (1 : Int32)), .val (.long (0 : Int64)), .second, .val (.long (f_rm5 q1 (0 : Int64))), .second, .val (.long (v_rm0_1 q2 q1)), .second, .val (.long (f_rm5 q3 (v_rm0_1 q2 q1))), .second, .val (.long (v_rm0_2 q4 q3 q2 q1)), .second, .unset] [(.ref b131)])) (fun t k => XS.aload X161.here hx rfl (hb hby at_193) rfl rfl k) ?_
  refine go _ (T161.setTop (mkF m 197 #[.val (.long q1), .second, .val (.long q2), .second, .val (.long q3), .second, .val (.long q4), .second, .val (.long (v_rm0_0 q4)), .second, .val (.ref b117), .val (.ref b131), .val (.int (1 : Int32)), .val (.long (0 : Int64)), .second, .val (.long (f_rm5 q1 (0 : Int64))), .second, .val (.long (v_rm0_1 q2 q1)), .second, .val (.long (f_rm5 q3 (v_rm0_1 q2 q1))), .second, .val (.long (v_rm0_2 q4 q3 q2 q1)), .second, .unset] [(.int (32 : Int32)), (.ref b131)])) (fun t k => XS.bipush X161.here hx rfl (hb hby at_195) k) ?_
  obtain ⟨_, _, ⟨T164, L164, k164, n164⟩, -, X164, ⟨Lc164, hQ164, l164, y164, z164⟩, st164⟩ := Jvm.LawKit.callS X161 hx (y := (⟨"com/example/withhold/withhold/crypto/Ed25519ScalarsDigitsPinLaw", "horner", "([BI)J"⟩ : MethodName)) hown (mvT hZ (hw _ (List.mem_of_getElem? (i := 22) rfl))) (mvT hZ (hw _ (List.mem_of_getElem? (i := 23) rfl))) (mvT hZ (hw _ (List.mem_of_getElem? (i := 4) rfl))) (mvT hZ (hw _ (List.mem_of_getElem? (i := 24) rfl))) (by decide) (backOf (W := 0) (rm6 l Z a0 hw [] b131 (32 : Int32) Fd131 32 T131.heap n0 Z133 Aq131 (by decide) (by decide)) hZ (hw _ (List.mem_of_getElem? (i := 24) rfl)) (hw _ (List.mem_of_getElem? (i := 4) rfl)) (by decide) (by decide)) (g := (mkF m 197 #[.val (.long q1), .second, .val (.long q2), .second, .val (.long q3), .second, .val (.long q4), .second, .val (.long (v_rm0_0 q4)), .second, .val (.ref b117), .val (.ref b131), .val (.int (1 : Int32)), .val (.long (0 : Int64)), .second, .val (.long (f_rm5 q1 (0 : Int64))), .second, .val (.long (v_rm0_1 q2 q1)), .second, .val (.long (f_rm5 q3 (v_rm0_1 q2 q1))), .second, .val (.long (v_rm0_2 q4 q3 q2 q1)), .second, .unset] [(.int (32 : Int32)), (.ref b131)])) rfl (by rw [hml]; rfl) (argsL := [(.ref b131), (.int (32 : Int32))]) (rest := []) (lenOf pd_6 rfl) rfl (by show 2 * 0 + _ ≤ _; exact Nat.le_of_eq rfl) (hb hby at_197) (fun _ _ => ⟨rfl, hh161, (by decide : 2 + 0 ≤ _), (by decide : 96 + 0 ≤ _)⟩)
  dsimp only [Pt.U, Pt.locs, Pt.cells, Pt.slots] at X164 l164 y164 z164 st164 hQ164
  rw [l164, y164, z164] at X164
  obtain ⟨rfl, Nq164, hh164⟩ := hQ164
  have N165 := Fr.app N162 Nq164
  have X164 : Stand p l e room_1 s m _ below meth c T164 _ 2 96 := X164
  refine go _ (T164.setTop (mkF m 200 #[.val (.long q1), .second, .val (.long q2), .second, .val (.long q3), .second, .val (.long q4), .second, .val (.long (v_rm0_0 q4)), .second, .val (.ref b117), .val (.ref b131), .val (.int (1 : Int32)), .val (.long (0 : Int64)), .second, .val (.long (f_rm5 q1 (0 : Int64))), .second, .val (.long (v_rm0_1 q2 q1)), .second, .val (.long (f_rm5 q3 (v_rm0_1 q2 q1))), .second, .val (.long (v_rm0_2 q4 q3 q2 q1)), .second, .unset] [(.long (own_h Fd131 32))])) (st164) ?_
  refine go _ (T164.setTop (mkF m 202 #[.val (.long q1), .second, .val (.long q2), .second, .val (.long q3), .second, .val (.long q4), .second, .val (.long (v_rm0_0 q4)), .second, .val (.ref b117), .val (.ref b131), .val (.int (1 : Int32)), .val (.long (0 : Int64)), .second, .val (.long (f_rm5 q1 (0 : Int64))), .second, .val (.long (v_rm0_1 q2 q1)), .second, .val (.long (f_rm5 q3 (v_rm0_1 q2 q1))), .second, .val (.long (v_rm0_2 q4 q3 q2 q1)), .second, .unset] [(.long q3), (.long (own_h Fd131 32))])) (fun t k => XS.lload X164.here hx rfl (hb hby at_200) rfl k) ?_
  refine go _ (T164.setTop (mkF m 204 #[.val (.long q1), .second, .val (.long q2), .second, .val (.long q3), .second, .val (.long q4), .second, .val (.long (v_rm0_0 q4)), .second, .val (.ref b117), .val (.ref b131), .val (.int (1 : Int32)), .val (.long (0 : Int64)), .second, .val (.long (f_rm5 q1 (0 : Int64))), .second, .val (.long (v_rm0_1 q2 q1)), .second, .val (.long (f_rm5 q3 (v_rm0_1 q2 q1))), .second, .val (.long (v_rm0_2 q4 q3 q2 q1)), .second, .unset] [(.long (v_rm0_1 q2 q1)), (.long q3), (.long (own_h Fd131 32))])) (fun t k => XS.lload X164.here hx rfl (hb hby at_202) rfl k) ?_
  refine go _ (T164.setTop (mkF m 205 #[.val (.long q1), .second, .val (.long q2), .second, .val (.long q3), .second, .val (.long q4), .second, .val (.long (v_rm0_0 q4)), .second, .val (.ref b117), .val (.ref b131), .val (.int (1 : Int32)), .val (.long (0 : Int64)), .second, .val (.long (f_rm5 q1 (0 : Int64))), .second, .val (.long (v_rm0_1 q2 q1)), .second, .val (.long (f_rm5 q3 (v_rm0_1 q2 q1))), .second, .val (.long (v_rm0_2 q4 q3 q2 q1)), .second, .unset] [(.long (q3 + (v_rm0_1 q2 q1))), (.long (own_h Fd131 32))])) (fun t k => XS.ladd X164.here hx rfl (hb hby at_204) rfl k) ?_
  refine go _ (T164.setTop (mkF m 206 #[.val (.long q1), .second, .val (.long q2), .second, .val (.long q3), .second, .val (.long q4), .second, .val (.long (v_rm0_0 q4)), .second, .val (.ref b117), .val (.ref b131), .val (.int (1 : Int32)), .val (.long (0 : Int64)), .second, .val (.long (f_rm5 q1 (0 : Int64))), .second, .val (.long (v_rm0_1 q2 q1)), .second, .val (.long (f_rm5 q3 (v_rm0_1 q2 q1))), .second, .val (.long (v_rm0_2 q4 q3 q2 q1)), .second, .unset] [(.int (lcmpW (own_h Fd131 32) (q3 + (v_rm0_1 q2 q1))))])) (fun t k => XS.lcmp X164.here hx rfl (hb hby at_205) rfl k) ?_
  have hc166 : ((own_h Fd131 32) = (q3 + (v_rm0_1 q2 q1))) := E2
  refine go _ (T164.setTop (mkF m 209 #[.val (.long q1), .second, .val (.long q2), .second, .val (.long q3), .second, .val (.long q4), .second, .val (.long (v_rm0_0 q4)), .second, .val (.ref b117), .val (.ref b131), .val (.int (1 : Int32)), .val (.long (0 : Int64)), .second, .val (.long (f_rm5 q1 (0 : Int64))), .second, .val (.long (v_rm0_1 q2 q1)), .second, .val (.long (f_rm5 q3 (v_rm0_1 q2 q1))), .second, .val (.long (v_rm0_2 q4 q3 q2 q1)), .second, .unset] [])) (fun t k => XS.ifNo X164.here hx rfl (hb hby at_206) rfl ((if0 _ _).trans (teq ((lw_eq (own_h Fd131 32) (q3 + (v_rm0_1 q2 q1))).mpr hc166)).2) k) ?_
  refine go _ (T164.setTop (mkF m 211 #[.val (.long q1), .second, .val (.long q2), .second, .val (.long q3), .second, .val (.long q4), .second, .val (.long (v_rm0_0 q4)), .second, .val (.ref b117), .val (.ref b131), .val (.int (1 : Int32)), .val (.long (0 : Int64)), .second, .val (.long (f_rm5 q1 (0 : Int64))), .second, .val (.long (v_rm0_1 q2 q1)), .second, .val (.long (f_rm5 q3 (v_rm0_1 q2 q1))), .second, .val (.long (v_rm0_2 q4 q3 q2 q1)), .second, .unset] [(.ref b131)])) (fun t k => XS.aload X164.here hx rfl (hb hby at_209) rfl rfl k) ?_
  refine go _ (T164.setTop (mkF m 213 #[.val (.long q1), .second, .val (.long q2), .second, .val (.long q3), .second, .val (.long q4), .second, .val (.long (v_rm0_0 q4)), .second, .val (.ref b117), .val (.ref b131), .val (.int (1 : Int32)), .val (.long (0 : Int64)), .second, .val (.long (f_rm5 q1 (0 : Int64))), .second, .val (.long (v_rm0_1 q2 q1)), .second, .val (.long (f_rm5 q3 (v_rm0_1 q2 q1))), .second, .val (.long (v_rm0_2 q4 q3 q2 q1)), .second, .unset] [(.int (48 : Int32)), (.ref b131)])) (fun t k => XS.bipush X164.here hx rfl (hb hby at_211) k) ?_
  obtain ⟨_, _, ⟨T167, L167, k167, n167⟩, -, X167, ⟨Lc167, hQ167, l167, y167, z167⟩, st167⟩ := Jvm.LawKit.callS X164 hx (y := (⟨"com/example/withhold/withhold/crypto/Ed25519ScalarsDigitsPinLaw", "horner", "([BI)J"⟩ : MethodName)) hown (mvT hZ (hw _ (List.mem_of_getElem? (i := 22) rfl))) (mvT hZ (hw _ (List.mem_of_getElem? (i := 23) rfl))) (mvT hZ (hw _ (List.mem_of_getElem? (i := 4) rfl))) (mvT hZ (hw _ (List.mem_of_getElem? (i := 24) rfl))) (by decide) (backOf (W := 0) (rm6 l Z a0 hw [] b131 (48 : Int32) Fd131 48 T131.heap n0 Z133 Aq131 (by decide) (by decide)) hZ (hw _ (List.mem_of_getElem? (i := 24) rfl)) (hw _ (List.mem_of_getElem? (i := 4) rfl)) (by decide) (by decide)) (g := (mkF m 213 #[.val (.long q1), .second, .val (.long q2), .second, .val (.long q3), .second, .val (.long q4), .second, .val (.long (v_rm0_0 q4)), .second, .val (.ref b117), .val (.ref b131), .val (.int (1 : Int32)), .val (.long (0 : Int64)), .second, .val (.long (f_rm5 q1 (0 : Int64))), .second, .val (.long (v_rm0_1 q2 q1)), .second, .val (.long (f_rm5 q3 (v_rm0_1 q2 q1))), .second, .val (.long (v_rm0_2 q4 q3 q2 q1)), .second, .unset] [(.int (48 : Int32)), (.ref b131)])) rfl (by rw [hml]; rfl) (argsL := [(.ref b131), (.int (48 : Int32))]) (rest := []) (lenOf pd_6 rfl) rfl (by show 2 * 0 + _ ≤ _; exact Nat.le_of_eq rfl) (hb hby at_213) (fun _ _ => ⟨rfl, hh164, (by decide : 2 + 0 ≤ _), (by decide : 96 + 0 ≤ _)⟩)
  dsimp only [Pt.U, Pt.locs, Pt.cells, Pt.slots] at X167 l167 y167 z167 st167 hQ167
  rw [l167, y167, z167] at X167
  obtain ⟨rfl, Nq167, hh167⟩ := hQ167
  have N168 := Fr.app N165 Nq167
  have X167 : Stand p l e room_1 s m _ below meth c T167 _ 2 96 := X167
  refine go _ (T167.setTop (mkF m 216 #[.val (.long q1), .second, .val (.long q2), .second, .val (.long q3), .second, .val (.long q4), .second, .val (.long (v_rm0_0 q4)), .second, .val (.ref b117), .val (.ref b131), .val (.int (1 : Int32)), .val (.long (0 : Int64)), .second, .val (.long (f_rm5 q1 (0 : Int64))), .second, .val (.long (v_rm0_1 q2 q1)), .second, .val (.long (f_rm5 q3 (v_rm0_1 q2 q1))), .second, .val (.long (v_rm0_2 q4 q3 q2 q1)), .second, .unset] [(.long (own_h Fd131 48))])) (st167) ?_
  refine go _ (T167.setTop (mkF m 218 #[.val (.long q1), .second, .val (.long q2), .second, .val (.long q3), .second, .val (.long q4), .second, .val (.long (v_rm0_0 q4)), .second, .val (.ref b117), .val (.ref b131), .val (.int (1 : Int32)), .val (.long (0 : Int64)), .second, .val (.long (f_rm5 q1 (0 : Int64))), .second, .val (.long (v_rm0_1 q2 q1)), .second, .val (.long (f_rm5 q3 (v_rm0_1 q2 q1))), .second, .val (.long (v_rm0_2 q4 q3 q2 q1)), .second, .unset] [(.long (v_rm0_0 q4)), (.long (own_h Fd131 48))])) (fun t k => XS.lload X167.here hx rfl (hb hby at_216) rfl k) ?_
  refine go _ (T167.setTop (mkF m 220 #[.val (.long q1), .second, .val (.long q2), .second, .val (.long q3), .second, .val (.long q4), .second, .val (.long (v_rm0_0 q4)), .second, .val (.ref b117), .val (.ref b131), .val (.int (1 : Int32)), .val (.long (0 : Int64)), .second, .val (.long (f_rm5 q1 (0 : Int64))), .second, .val (.long (v_rm0_1 q2 q1)), .second, .val (.long (f_rm5 q3 (v_rm0_1 q2 q1))), .second, .val (.long (v_rm0_2 q4 q3 q2 q1)), .second, .unset] [(.long (f_rm5 q3 (v_rm0_1 q2 q1))), (.long (v_rm0_0 q4)), (.long (own_h Fd131 48))])) (fun t k => XS.lload X167.here hx rfl (hb hby at_218) rfl k) ?_
  refine go _ (T167.setTop (mkF m 221 #[.val (.long q1), .second, .val (.long q2), .second, .val (.long q3), .second, .val (.long q4), .second, .val (.long (v_rm0_0 q4)), .second, .val (.ref b117), .val (.ref b131), .val (.int (1 : Int32)), .val (.long (0 : Int64)), .second, .val (.long (f_rm5 q1 (0 : Int64))), .second, .val (.long (v_rm0_1 q2 q1)), .second, .val (.long (f_rm5 q3 (v_rm0_1 q2 q1))), .second, .val (.long (v_rm0_2 q4 q3 q2 q1)), .second, .unset] [(.long ((v_rm0_0 q4) + (f_rm5 q3 (v_rm0_1 q2 q1)))), (.long (own_h Fd131 48))])) (fun t k => XS.ladd X167.here hx rfl (hb hby at_220) rfl k) ?_
  refine go _ (T167.setTop (mkF m 222 #[.val (.long q1), .second, .val (.long q2), .second, .val (.long q3), .second, .val (.long q4), .second, .val (.long (v_rm0_0 q4)), .second, .val (.ref b117), .val (.ref b131), .val (.int (1 : Int32)), .val (.long (0 : Int64)), .second, .val (.long (f_rm5 q1 (0 : Int64))), .second, .val (.long (v_rm0_1 q2 q1)), .second, .val (.long (f_rm5 q3 (v_rm0_1 q2 q1))), .second, .val (.long (v_rm0_2 q4 q3 q2 q1)), .second, .unset] [(.int (lcmpW (own_h Fd131 48) ((v_rm0_0 q4) + (f_rm5 q3 (v_rm0_1 q2 q1)))))])) (fun t k => XS.lcmp X167.here hx rfl (hb hby at_221) rfl k) ?_
  have hc169 : ((own_h Fd131 48) = ((v_rm0_0 q4) + (f_rm5 q3 (v_rm0_1 q2 q1)))) := E3
  refine go _ (T167.setTop (mkF m 225 #[.val (.long q1), .second, .val (.long q2), .second, .val (.long q3), .second, .val (.long q4), .second, .val (.long (v_rm0_0 q4)), .second, .val (.ref b117), .val (.ref b131), .val (.int (1 : Int32)), .val (.long (0 : Int64)), .second, .val (.long (f_rm5 q1 (0 : Int64))), .second, .val (.long (v_rm0_1 q2 q1)), .second, .val (.long (f_rm5 q3 (v_rm0_1 q2 q1))), .second, .val (.long (v_rm0_2 q4 q3 q2 q1)), .second, .unset] [])) (fun t k => XS.ifNo X167.here hx rfl (hb hby at_222) rfl ((if0 _ _).trans (teq ((lw_eq (own_h Fd131 48) ((v_rm0_0 q4) + (f_rm5 q3 (v_rm0_1 q2 q1)))).mpr hc169)).2) k) ?_
  refine go _ (T167.setTop (mkF m 227 #[.val (.long q1), .second, .val (.long q2), .second, .val (.long q3), .second, .val (.long q4), .second, .val (.long (v_rm0_0 q4)), .second, .val (.ref b117), .val (.ref b131), .val (.int (1 : Int32)), .val (.long (0 : Int64)), .second, .val (.long (f_rm5 q1 (0 : Int64))), .second, .val (.long (v_rm0_1 q2 q1)), .second, .val (.long (f_rm5 q3 (v_rm0_1 q2 q1))), .second, .val (.long (v_rm0_2 q4 q3 q2 q1)), .second, .unset] [(.long (v_rm0_2 q4 q3 q2 q1))])) (fun t k => XS.lload X167.here hx rfl (hb hby at_225) rfl k) ?_
  refine go _ (T167.setTop (mkF m 228 #[.val (.long q1), .second, .val (.long q2), .second, .val (.long q3), .second, .val (.long q4), .second, .val (.long (v_rm0_0 q4)), .second, .val (.ref b117), .val (.ref b131), .val (.int (1 : Int32)), .val (.long (0 : Int64)), .second, .val (.long (f_rm5 q1 (0 : Int64))), .second, .val (.long (v_rm0_1 q2 q1)), .second, .val (.long (f_rm5 q3 (v_rm0_1 q2 q1))), .second, .val (.long (v_rm0_2 q4 q3 q2 q1)), .second, .unset] [(.long (0 : Int64)), (.long (v_rm0_2 q4 q3 q2 q1))])) (fun t k => XS.lconst X167.here hx rfl (hb hby at_227) k) ?_
  refine go _ (T167.setTop (mkF m 229 #[.val (.long q1), .second, .val (.long q2), .second, .val (.long q3), .second, .val (.long q4), .second, .val (.long (v_rm0_0 q4)), .second, .val (.ref b117), .val (.ref b131), .val (.int (1 : Int32)), .val (.long (0 : Int64)), .second, .val (.long (f_rm5 q1 (0 : Int64))), .second, .val (.long (v_rm0_1 q2 q1)), .second, .val (.long (f_rm5 q3 (v_rm0_1 q2 q1))), .second, .val (.long (v_rm0_2 q4 q3 q2 q1)), .second, .unset] [(.int (lcmpW (v_rm0_2 q4 q3 q2 q1) (0 : Int64)))])) (fun t k => XS.lcmp X167.here hx rfl (hb hby at_228) rfl k) ?_
  have hc170 : ((v_rm0_2 q4 q3 q2 q1) = (0 : Int64)) := EC
  refine go _ (T167.setTop (mkF m 232 #[.val (.long q1), .second, .val (.long q2), .second, .val (.long q3), .second, .val (.long q4), .second, .val (.long (v_rm0_0 q4)), .second, .val (.ref b117), .val (.ref b131), .val (.int (1 : Int32)), .val (.long (0 : Int64)), .second, .val (.long (f_rm5 q1 (0 : Int64))), .second, .val (.long (v_rm0_1 q2 q1)), .second, .val (.long (f_rm5 q3 (v_rm0_1 q2 q1))), .second, .val (.long (v_rm0_2 q4 q3 q2 q1)), .second, .unset] [])) (fun t k => XS.ifNo X167.here hx rfl (hb hby at_229) rfl ((if0 _ _).trans (teq ((lw_eq (v_rm0_2 q4 q3 q2 q1) (0 : Int64)).mpr hc170)).2) k) ?_
  refine go _ (T167.setTop (mkF m 233 #[.val (.long q1), .second, .val (.long q2), .second, .val (.long q3), .second, .val (.long q4), .second, .val (.long (v_rm0_0 q4)), .second, .val (.ref b117), .val (.ref b131), .val (.int (1 : Int32)), .val (.long (0 : Int64)), .second, .val (.long (f_rm5 q1 (0 : Int64))), .second, .val (.long (v_rm0_1 q2 q1)), .second, .val (.long (f_rm5 q3 (v_rm0_1 q2 q1))), .second, .val (.long (v_rm0_2 q4 q3 q2 q1)), .second, .unset] [(.int (1 : Int32))])) (fun t k => XS.iconst X167.here hx rfl (hb hby at_232) k) ?_
  refine go _ (T167.setTop (mkF m 237 #[.val (.long q1), .second, .val (.long q2), .second, .val (.long q3), .second, .val (.long q4), .second, .val (.long (v_rm0_0 q4)), .second, .val (.ref b117), .val (.ref b131), .val (.int (1 : Int32)), .val (.long (0 : Int64)), .second, .val (.long (f_rm5 q1 (0 : Int64))), .second, .val (.long (v_rm0_1 q2 q1)), .second, .val (.long (f_rm5 q3 (v_rm0_1 q2 q1))), .second, .val (.long (v_rm0_2 q4 q3 q2 q1)), .second, .unset] [(.int (1 : Int32))])) (fun t k => XS.goto X167.here hx rfl (pc0 := 233) (pc' := 237) rfl (hb hby at_233) (by decide) (by decide) k) ?_
  refine go _ (T167.setTop (mkF m 239 #[.val (.long q1), .second, .val (.long q2), .second, .val (.long q3), .second, .val (.long q4), .second, .val (.long (v_rm0_0 q4)), .second, .val (.ref b117), .val (.ref b131), .val (.int (1 : Int32)), .val (.long (0 : Int64)), .second, .val (.long (f_rm5 q1 (0 : Int64))), .second, .val (.long (v_rm0_1 q2 q1)), .second, .val (.long (f_rm5 q3 (v_rm0_1 q2 q1))), .second, .val (.long (v_rm0_2 q4 q3 q2 q1)), .second, .val (.int (1 : Int32))] [])) (fun t k => XS.istore X167.here hx rfl (hb hby at_237) rfl (l' := #[.val (.long q1), .second, .val (.long q2), .second, .val (.long q3), .second, .val (.long q4), .second, .val (.long (v_rm0_0 q4)), .second, .val (.ref b117), .val (.ref b131), .val (.int (1 : Int32)), .val (.long (0 : Int64)), .second, .val (.long (f_rm5 q1 (0 : Int64))), .second, .val (.long (v_rm0_1 q2 q1)), .second, .val (.long (f_rm5 q3 (v_rm0_1 q2 q1))), .second, .val (.long (v_rm0_2 q4 q3 q2 q1)), .second, .val (.int (1 : Int32))]) rfl k) ?_
  refine go _ (T167.setTop (mkF m 241 #[.val (.long q1), .second, .val (.long q2), .second, .val (.long q3), .second, .val (.long q4), .second, .val (.long (v_rm0_0 q4)), .second, .val (.ref b117), .val (.ref b131), .val (.int (1 : Int32)), .val (.long (0 : Int64)), .second, .val (.long (f_rm5 q1 (0 : Int64))), .second, .val (.long (v_rm0_1 q2 q1)), .second, .val (.long (f_rm5 q3 (v_rm0_1 q2 q1))), .second, .val (.long (v_rm0_2 q4 q3 q2 q1)), .second, .val (.int (1 : Int32))] [(.int (1 : Int32))])) (fun t k => XS.iload X167.here hx rfl (hb hby at_239) rfl k) ?_
  have hc171 : ¬ ((1 : Int32) = (0 : Int32)) := by decide
  refine go _ (T167.setTop (mkF m 244 #[.val (.long q1), .second, .val (.long q2), .second, .val (.long q3), .second, .val (.long q4), .second, .val (.long (v_rm0_0 q4)), .second, .val (.ref b117), .val (.ref b131), .val (.int (1 : Int32)), .val (.long (0 : Int64)), .second, .val (.long (f_rm5 q1 (0 : Int64))), .second, .val (.long (v_rm0_1 q2 q1)), .second, .val (.long (f_rm5 q3 (v_rm0_1 q2 q1))), .second, .val (.long (v_rm0_2 q4 q3 q2 q1)), .second, .val (.int (1 : Int32))] [])) (fun t k => XS.ifNo X167.here hx rfl (hb hby at_241) rfl ((if0 _ _).trans (feq hc171).1) k) ?_
  refine go _ (T167.setTop (mkF m 246 #[.val (.long q1), .second, .val (.long q2), .second, .val (.long q3), .second, .val (.long q4), .second, .val (.long (v_rm0_0 q4)), .second, .val (.ref b117), .val (.ref b131), .val (.int (1 : Int32)), .val (.long (0 : Int64)), .second, .val (.long (f_rm5 q1 (0 : Int64))), .second, .val (.long (v_rm0_1 q2 q1)), .second, .val (.long (f_rm5 q3 (v_rm0_1 q2 q1))), .second, .val (.long (v_rm0_2 q4 q3 q2 q1)), .second, .val (.int (1 : Int32))] [(.int (1 : Int32))])) (fun t k => XS.iload X167.here hx rfl (hb hby at_244) rfl k) ?_
  have hc172 : ¬ ((1 : Int32) = (0 : Int32)) := by decide
  refine go _ (T167.setTop (mkF m 249 #[.val (.long q1), .second, .val (.long q2), .second, .val (.long q3), .second, .val (.long q4), .second, .val (.long (v_rm0_0 q4)), .second, .val (.ref b117), .val (.ref b131), .val (.int (1 : Int32)), .val (.long (0 : Int64)), .second, .val (.long (f_rm5 q1 (0 : Int64))), .second, .val (.long (v_rm0_1 q2 q1)), .second, .val (.long (f_rm5 q3 (v_rm0_1 q2 q1))), .second, .val (.long (v_rm0_2 q4 q3 q2 q1)), .second, .val (.int (1 : Int32))] [])) (fun t k => XS.ifNo X167.here hx rfl (hb hby at_246) rfl ((if0 _ _).trans (feq hc172).1) k) ?_
  refine go _ (T167.setTop (mkF m 250 #[.val (.long q1), .second, .val (.long q2), .second, .val (.long q3), .second, .val (.long q4), .second, .val (.long (v_rm0_0 q4)), .second, .val (.ref b117), .val (.ref b131), .val (.int (1 : Int32)), .val (.long (0 : Int64)), .second, .val (.long (f_rm5 q1 (0 : Int64))), .second, .val (.long (v_rm0_1 q2 q1)), .second, .val (.long (f_rm5 q3 (v_rm0_1 q2 q1))), .second, .val (.long (v_rm0_2 q4 q3 q2 q1)), .second, .val (.int (1 : Int32))] [(.int (1 : Int32))])) (fun t k => XS.iconst X167.here hx rfl (hb hby at_249) k) ?_
  refine go _ (T167.setTop (mkF m 254 #[.val (.long q1), .second, .val (.long q2), .second, .val (.long q3), .second, .val (.long q4), .second, .val (.long (v_rm0_0 q4)), .second, .val (.ref b117), .val (.ref b131), .val (.int (1 : Int32)), .val (.long (0 : Int64)), .second, .val (.long (f_rm5 q1 (0 : Int64))), .second, .val (.long (v_rm0_1 q2 q1)), .second, .val (.long (f_rm5 q3 (v_rm0_1 q2 q1))), .second, .val (.long (v_rm0_2 q4 q3 q2 q1)), .second, .val (.int (1 : Int32))] [(.int (1 : Int32))])) (fun t k => XS.goto X167.here hx rfl (pc0 := 250) (pc' := 254) rfl (hb hby at_250) (by decide) (by decide) k) ?_
  exact fin (some (.int (1 : Int32))) X167 (by decide) (by decide) (fun q => by cases q) (show Q_rm0 Z q1 q2 q3 q4 h0 n0 _ T167.heap _ from (by rw [hh167]; exact ⟨rfl, N168⟩)) (fun fs hr => retN X167 hx (t := .boolean) hret (by simp) (hb hby at_254) hr)
set_option maxRecDepth 65536 in
set_option maxHeartbeats 40000000 in
theorem comes_1 {Post : Tables → Env → Array Value → State → Outcome → State → Prop} (hpost : ∀ tb e args s v u, (limb_1_1.after args s (.returned v) u = true ∧ limb_1_2.after args s (.returned v) u = true ∧ True) → FrameEnd s (.returned v) u (Jvm.fieldLocs frame_1_writes args s ++ Jvm.arrayLocs frame_1_arrays args s ++ Jvm.staticLocs frame_1_statics s) 16 256 → Post tb e args s (.returned v) u) :
    ArmFor flags0 classFile x code maxLocals ret World_1 tables_1 room_1 Calls_1 rest_1 Pre_1 Post := by
  intro l hfl _ _ p e ha hc hk s m args below hf hA hF happ hP
  obtain ⟨hcalls, hrest, hpre⟩ := hP
  obtain ⟨-, -, -, hnamed, -, -, -, hat⟩ := (Spec.applies_iff hf).mp happ
  obtain ⟨hg, hn⟩ := and_e (Cond.before_iff.mp (show (Jvm.Cond.and given_1 narrow_1).before args s = true from hpre))
  obtain ⟨gc, g1⟩ := and_e hg
  obtain ⟨ga0, g2⟩ := and_e g1
  obtain ⟨ga1, g3⟩ := and_e g2
  obtain ⟨ga2, g4⟩ := and_e g3
  have ga3 := g4
  obtain ⟨w0, w1, w2, w3, rfl⟩ : ∃ w0 w1 w2 w3 : Value, args = #[w0, w1, w2, w3] := by
    have hs : args.size = 4 := by simpa [Cond.value, given_1] using gc
    obtain ⟨L⟩ := args
    match L, hs with
    | [w0, w1, w2, w3], _ => exact ⟨w0, w1, w2, w3, rfl⟩
  have hw := fun d (hd : d ∈ tables_1) => atoms_spec (ws := Jvm.Cond.code x code maxLocals ret :: tables_1) hat d (List.mem_cons_of_mem _ hd)
  obtain ⟨i0, ei0⟩ := isL_v ga0
  obtain rfl : w0 = (.long i0) := Option.some.inj ei0
  obtain ⟨i1, ei1⟩ := isL_v ga1
  obtain rfl : w1 = (.long i1) := Option.some.inj ei1
  obtain ⟨i2, ei2⟩ := isL_v ga2
  obtain rfl : w2 = (.long i2) := Option.some.inj ei2
  obtain ⟨i3, ei3⟩ := isL_v ga3
  obtain rfl : w3 = (.long i3) := Option.some.inj ei3
  obtain ⟨n, o, h1, h2, h3, _, L, rfl, ⟨rfl, N⟩, hq⟩ := rm0 l s _ hw tables_1 i0 i1 i2 i3 s.heap s.heap.size (Nat.le_refl _) p e ha hc hk s m _ below hf ((Spec.applies_iff_loose hf).mp happ).1 ⟨rfl, State.Warmed39.refl s, rfl⟩ trivial
  refine ⟨n, _, h1, h2, h3, hpost _ _ _ _ _ _ ⟨Cond.after_iff.mpr rfl, Cond.after_iff.mpr (eq_i res_at (Term.int_eval (1)) rfl), trivial⟩ ⟨hq.1, hq.2.1, (hq.2.2.sift fun y hy => Or.inr (N y hy)).mono (by decide) (by decide)⟩⟩
theorem main_1_1 : Claimed_1_1 := comes_1 fun _ _ _ _ _ _ h hF => ⟨h.1, hF⟩
theorem main_1_2 : Claimed_1_2 := comes_1 fun _ _ _ _ _ _ h hF => ⟨h.2.1, hF⟩
end Jvm.Pilot.@@N@@
namespace Jvm.Pilot.@@N@@
open Jvm Jvm.ClassFile Sem Op Lib Jvm.Free Jvm.Stand Jvm.Pilot.@@N@@.Jvm.D
/-! MADE BY PROGRAM (witnessworld.py) out of the Statement's table words and the real class files: 9 classes; the members and pool entries that the words name. The judged class is class 1, her method 1. -/
namespace start1
open Jvm.ClassFile
def u (s : String) : CpInfo := .utf8 (stringToUtf16 s)
/-- a pool by its gaps: so many unusable entries, then the entry; so many at the end -/
def gap : Nat → List CpInfo → List CpInfo
  | 0, r => r
  | n + 1, r => .unusable :: gap n r
def poolList (es : List (Nat × CpInfo)) (last : Nat) : List CpInfo := es.foldr (fun e r => gap e.1 (e.2 :: r)) (gap last [])
def pool (es : List (Nat × CpInfo)) (last : Nat) : Array CpInfo := ⟨poolList es last⟩
def fileOf (pool : Array CpInfo) (this : Nat) (attrs : Array Attribute := #[]) (ms : Array MethodInfo := #[]) (fl : Nat := 33) (sup : Nat := 0) (ifs : Array Nat := #[]) (fds : Array FieldInfo := #[]) : ClassFile where
  minorVersion := 0
  majorVersion := 65
  constantPool := pool
  accessFlags := fl
  thisClass := this
  superClass := sup
  interfaces := ifs
  fields := fds
  methods := ms
  attributes := attrs
def plain (name : String) (sup : Option ClassId) : Class where
  name := name
  kind := .ordinary
  loader := none
  accessFlags := 33
  super := sup
  interfaces := #[]
  cf := none
  fields := #[]
  methods := #[]
  instanceTypes := #[]
  staticTypes := #[]
  resolved := #[]
  callSites := []
  init := .initialized
  statics := none
  mirror := none

def pool0 : Array CpInfo := pool [(5, u "<init>"), (0, u "()V"), (1, .class_ 10), (1, u "java/lang/Object")] 113

def k0m0 : Method := { name := "<init>", desc := "()V", sig := { parameters := [], returnType := none }, accessFlags := 1, code := none }
/-- java/lang/Object -/
def k0 : Class := { plain "java/lang/Object" none with
  accessFlags := 33
  interfaces := #[]
  cf := some (fileOf pool0 8 #[] #[{ accessFlags := 1, nameIndex := 5, descriptorIndex := 6, attributes := #[] }] 33 0 #[] #[])
  fields := #[]
  methods := #[k0m0]
  instanceTypes := #[]
  staticTypes := #[]
  resolved := Array.replicate 124 none
  statics := none }

def pool1 : Array CpInfo := pool [(2, .class_ 4), (1, u "java/lang/Object"), (0, u "<init>"), (0, u "()V"), (0, .long 2305843009213693951), (1, .methodref 10 11), (0, .class_ 12), (0, .nameAndType 13 14), (0, u "com/example/withhold/withhold/crypto/Ed25519ScalarsDigitsPinLaw"), (0, u "put"), (0, u "([BIJ)V"), (0, .methodref 16 17), (0, .class_ 18), (0, .nameAndType 19 20), (0, u "com/example/withhold/withhold/crypto/Ed25519Scalars"), (0, u "digits"), (0, u "([B)[B"), (0, .methodref 10 22), (0, .nameAndType 23 24), (0, u "chunkOk"), (0, u "([BI)Z"), (0, .methodref 10 26), (0, .nameAndType 27 28), (0, u "carry"), (0, u "(JJ)J"), (0, .methodref 10 30), (0, .nameAndType 31 32), (0, u "horner"), (0, u "([BI)J"), (0, .long 18446744073709551615), (1, .long 9223372036854775808), (1, .long 8608480567731124088), (1, .methodref 10 40), (0, .nameAndType 41 42), (0, u "ok"), (0, u "(I)Z"), (0, .long 16), (3, u "law"), (0, u "(JJJJ)Z")] 5

def k1m0 : Method := { name := "<init>", desc := "()V", sig := { parameters := [], returnType := none }, accessFlags := 2, code := none }
def k1c1 : Code := { maxStack := 6, maxLocals := 24, code := code, exceptionTable := #[], attributes := #[] }
def k1m1 : Method := { name := "law", desc := "(JJJJ)Z", sig := { parameters := [.long, .long, .long, .long], returnType := some .boolean }, accessFlags := 9, code := some k1c1 }
def k1c2 : Code := { maxStack := 5, maxLocals := 4, code := method_3_code, exceptionTable := #[], attributes := #[] }
def k1m2 : Method := { name := "put", desc := "([BIJ)V", sig := { parameters := [(.array .byte), .int, .long], returnType := none }, accessFlags := 10, code := some k1c2 }
def k1c3 : Code := { maxStack := 6, maxLocals := 8, code := method_4_code, exceptionTable := #[], attributes := #[] }
def k1m3 : Method := { name := "carry", desc := "(JJ)J", sig := { parameters := [.long, .long], returnType := some .long }, accessFlags := 10, code := some k1c3 }
def k1c4 : Code := { maxStack := 2, maxLocals := 1, code := method_5_code, exceptionTable := #[], attributes := #[] }
def k1m4 : Method := { name := "ok", desc := "(I)Z", sig := { parameters := [.int], returnType := some .boolean }, accessFlags := 10, code := some k1c4 }
def k1c5 : Code := { maxStack := 3, maxLocals := 2, code := method_6_code, exceptionTable := #[], attributes := #[] }
def k1m5 : Method := { name := "chunkOk", desc := "([BI)Z", sig := { parameters := [(.array .byte), .int], returnType := some .boolean }, accessFlags := 10, code := some k1c5 }
def k1c6 : Code := { maxStack := 5, maxLocals := 4, code := method_7_code, exceptionTable := #[], attributes := #[] }
def k1m6 : Method := { name := "horner", desc := "([BI)J", sig := { parameters := [(.array .byte), .int], returnType := some .long }, accessFlags := 10, code := some k1c6 }
/-- com/example/withhold/withhold/crypto/Ed25519ScalarsDigitsPinLaw -/
def k1 : Class := { plain "com/example/withhold/withhold/crypto/Ed25519ScalarsDigitsPinLaw" (some 0) with
  accessFlags := 49
  interfaces := #[]
  cf := some (fileOf pool1 10 #[] #[{ accessFlags := 2, nameIndex := 5, descriptorIndex := 6, attributes := #[] }, { accessFlags := 9, nameIndex := 47, descriptorIndex := 48, attributes := #[] }, { accessFlags := 10, nameIndex := 13, descriptorIndex := 14, attributes := #[] }, { accessFlags := 10, nameIndex := 27, descriptorIndex := 28, attributes := #[] }, { accessFlags := 10, nameIndex := 41, descriptorIndex := 42, attributes := #[] }, { accessFlags := 10, nameIndex := 23, descriptorIndex := 24, attributes := #[] }, { accessFlags := 10, nameIndex := 31, descriptorIndex := 32, attributes := #[] }] 49 2 #[] #[])
  fields := #[]
  methods := #[k1m0, k1m1, k1m2, k1m3, k1m4, k1m5, k1m6]
  instanceTypes := #[]
  staticTypes := #[]
  resolved := Array.replicate 54 none
  statics := none }

def pool2 : Array CpInfo := pool [(1, .class_ 2), (0, u "com/example/withhold/withhold/crypto/Ed25519Scalars"), (1, .class_ 6), (1, u "java/lang/Object"), (0, u "<init>"), (0, u "()V"), (6, u "L"), (0, u "Ljava/math/BigInteger;"), (32, u "BYTES"), (0, u "I"), (2, u "DIGITS"), (7, u "([B)[B"), (2, u "digits")] 3

def k2m0 : Method := { name := "<init>", desc := "()V", sig := { parameters := [], returnType := none }, accessFlags := 2, code := none }
def k2c1 : Code := { maxStack := 5, maxLocals := 4, code := prog_1_method_4_code, exceptionTable := #[], attributes := #[] }
def k2m1 : Method := { name := "digits", desc := "([B)[B", sig := { parameters := [(.array .byte)], returnType := some (.array .byte) }, accessFlags := 8, code := some k2c1 }
/-- com/example/withhold/withhold/crypto/Ed25519Scalars -/
def k2 : Class := { plain "com/example/withhold/withhold/crypto/Ed25519Scalars" (some 0) with
  accessFlags := 48
  interfaces := #[]
  cf := some (fileOf pool2 1 #[] #[{ accessFlags := 2, nameIndex := 7, descriptorIndex := 8, attributes := #[] }, { accessFlags := 8, nameIndex := 64, descriptorIndex := 61, attributes := #[] }] 48 4 #[] #[{ accessFlags := 24, nameIndex := 15, descriptorIndex := 16, attributes := #[] }, { accessFlags := 24, nameIndex := 49, descriptorIndex := 50, attributes := #[] }, { accessFlags := 24, nameIndex := 53, descriptorIndex := 50, attributes := #[] }])
  fields := #[{ name := "L", type := (.object "java/math/BigInteger"), accessFlags := 24, slot := 0, constantValue := 0 }, { name := "BYTES", type := .int, accessFlags := 24, slot := 1, constantValue := 0 }, { name := "DIGITS", type := .int, accessFlags := 24, slot := 2, constantValue := 0 }]
  methods := #[k2m0, k2m1]
  instanceTypes := #[]
  staticTypes := #[(.object "java/math/BigInteger"), .int, .int]
  resolved := Array.replicate 68 none
  statics := none }

def pool3 : Array CpInfo := pool [(1, u "java/lang/Cloneable"), (0, .class_ 1), (0, u "java/lang/Object"), (0, .class_ 3)] 3

/-- java/lang/Cloneable -/
def k3 : Class := { plain "java/lang/Cloneable" (some 0) with
  accessFlags := 1537
  interfaces := #[]
  cf := some (fileOf pool3 2 #[] #[] 1537 4 #[] #[])
  fields := #[]
  methods := #[]
  instanceTypes := #[]
  staticTypes := #[]
  resolved := Array.replicate 8 none
  statics := none }

def pool4 : Array CpInfo := pool [(1, u "java/io/Serializable"), (0, .class_ 1), (0, u "java/lang/Object"), (0, .class_ 3)] 3

/-- java/io/Serializable -/
def k4 : Class := { plain "java/io/Serializable" (some 0) with
  accessFlags := 1537
  interfaces := #[]
  cf := some (fileOf pool4 2 #[] #[] 1537 4 #[] #[])
  fields := #[]
  methods := #[]
  instanceTypes := #[]
  staticTypes := #[]
  resolved := Array.replicate 8 none
  statics := none }

/-- the primitive byte -/
def k5 : Class := { plain "byte" none with kind := .primitive 'B', accessFlags := 0x411 }
/-- [B -/
def k6 : Class := { plain "[B" (some 0) with kind := .array 5 .byte, interfaces := #[3, 4], accessFlags := 1041 }

/-- the primitive int -/
def k7 : Class := { plain "int" none with kind := .primitive 'I', accessFlags := 0x411 }
/-- [I -/
def k8 : Class := { plain "[I" (some 0) with kind := .array 7 .int, interfaces := #[3, 4], accessFlags := 1041 }

def heap : Heap := #[]
def classes : Array Class := #[k0, k1, k2, k3, k4, k5, k6, k7, k8]
def interned : List (Array UInt16 × Addr) := []
def slotsUsed : Nat := 0
def theMethod : MethodId := ⟨1, 1⟩
def args0 : Array Value := #[.long 5, .long 6, .long 7, .long 8]
def aboutOver (below : List Frame) : State where
  vm := { classes := classes, interned := interned.toArray }
  heap := heap
  slotsUsed := slotsUsed
  threads := #[{ frames := .invoking theMethod args0 :: below }]
def below0 : List Frame := [.native { method := ⟨0, 0⟩, args := #[] }]
def about1 : State := aboutOver below0
def p0 : Program := .bare "" "" ""
def e0 : Env := launch0.env 0 0 0
theorem w_frames : about1.frames = Frame.invoking theMethod args0 :: below0 := rfl
set_option maxRecDepth 65536 in
theorem w_args : argsFit about1.vm theMethod args0 = true := by decide +kernel
set_option maxRecDepth 65536 in
theorem w_heap : heapFits about1 = true := by decide +kernel
set_option maxRecDepth 65536 in
theorem w_runnable : about1.curStatus? = some .runnable := by decide +kernel
set_option maxRecDepth 65536 in
theorem w_alone : about1.alone = true := by decide +kernel
set_option maxRecDepth 65536 in
theorem w_named : about1.methodNamed? x = some theMethod := by decide +kernel
set_option maxRecDepth 65536 in
theorem w_hears : about1.hears theMethod below0 = true := by decide +kernel
set_option maxRecDepth 65536 in
theorem w_ripe : about1.ripe theMethod args0 below0 = true := by decide +kernel
theorem w_running : about1.status = .running := rfl
set_option maxRecDepth 65536 in
theorem w_room : about1.hasRoom e0.platform room_1 = true :=
  launch0.hasRoom_least _ room_1 (by decide +kernel) (by decide +kernel) (by decide +kernel) (by decide +kernel) (by decide +kernel) (by decide +kernel)
theorem allAtoms_all (ts : List Jvm.Cond) (a : Array Jvm.Value) (st : Jvm.State) : (allAtoms ts).before a st = ts.all (fun c => c.before a st) := by
  induction ts with
  | nil => rfl
  | cons c t ih =>
    show (Jvm.Cond.and c (allAtoms t)).before a st = _
    rw [Jvm.Cond.before_and, ih, List.all_cons]
def words1 : List Jvm.Cond := Jvm.Cond.code x code maxLocals ret :: tables_1
/-- a 'code' word, met by the world's own term for the bytes: nothing is compared byte by byte -/
theorem code_word {y : MethodName} {bytes : ByteArray} {mx : Nat} {rt : Option FieldType} {a : Array Value} {s : State} {m : MethodId} {meth : Method} {c : Code} (h1 : s.methodNamed? y = some m) (h2 : s.vm.method? m = some meth) (h3 : meth.code = some c) (h4 : c.code = bytes)
    (h5 : (c.maxLocals == mx && c.exceptionTable.isEmpty && decide (c.maxStack ≤ mostOperands) && decide (meth.sig.returnType = rt) && !meth.locks && decide (parseMethodDescriptor y.desc = some meth.sig)) = true) : (Jvm.Cond.code y bytes mx rt).before a s = true := by
  simp only [Bool.and_eq_true, beq_iff_eq, Bool.not_eq_true', decide_eq_true_eq] at h5
  obtain ⟨⟨⟨⟨⟨g1, g2⟩, g3⟩, g4⟩, g5⟩, g6⟩ := h5
  simp [Cond.before, Cond.holds, Cond.value, h1, h2, h3, h4, g1, g2, g3, g4, g5, g6]
def isCode : Jvm.Cond → Bool
  | .code _ _ _ _ => true
  | _ => false
theorem all_split {L : List Jvm.Cond} {P : Jvm.Cond → Bool} (h1 : L.all (fun c => isCode c || P c) = true) (h2 : ∀ c ∈ L.filter isCode, P c = true) : L.all P = true := by
  refine List.all_eq_true.mpr fun c hc => ?_
  have h := List.all_eq_true.mp h1 c hc
  rcases Bool.eq_false_or_eq_true (isCode c) with hi | hi
  · exact h2 c (List.mem_filter.mpr ⟨hc, hi⟩)
  · simpa [hi] using h
set_option maxRecDepth 65536 in
theorem w_c0 : (Jvm.Cond.code x code maxLocals ret).before args0 about1 = true := code_word (m := ⟨1, 1⟩) (meth := k1m1) (c := k1c1) (by decide +kernel) rfl rfl rfl (by decide +kernel)
set_option maxRecDepth 65536 in
theorem w_c1 : (Jvm.Cond.code ({ cls := "com/example/withhold/withhold/crypto/Ed25519ScalarsDigitsPinLaw", name := "put", desc := "([BIJ)V" } : Jvm.MethodName) method_3_code (4 : Nat) (Option.none : Option Jvm.ClassFile.FieldType)).before args0 about1 = true := code_word (m := ⟨1, 2⟩) (meth := k1m2) (c := k1c2) (by decide +kernel) rfl rfl rfl (by decide +kernel)
set_option maxRecDepth 65536 in
theorem w_c2 : (Jvm.Cond.code ({ cls := "com/example/withhold/withhold/crypto/Ed25519Scalars", name := "digits", desc := "([B)[B" } : Jvm.MethodName) prog_1_method_4_code (4 : Nat) (Option.some (Jvm.ClassFile.FieldType.array Jvm.ClassFile.FieldType.byte))).before args0 about1 = true := code_word (m := ⟨2, 1⟩) (meth := k2m1) (c := k2c1) (by decide +kernel) rfl rfl rfl (by decide +kernel)
set_option maxRecDepth 65536 in
theorem w_c3 : (Jvm.Cond.code ({ cls := "com/example/withhold/withhold/crypto/Ed25519ScalarsDigitsPinLaw", name := "chunkOk", desc := "([BI)Z" } : Jvm.MethodName) method_6_code (2 : Nat) (Option.some Jvm.ClassFile.FieldType.boolean)).before args0 about1 = true := code_word (m := ⟨1, 5⟩) (meth := k1m5) (c := k1c5) (by decide +kernel) rfl rfl rfl (by decide +kernel)
set_option maxRecDepth 65536 in
theorem w_c4 : (Jvm.Cond.code ({ cls := "com/example/withhold/withhold/crypto/Ed25519ScalarsDigitsPinLaw", name := "ok", desc := "(I)Z" } : Jvm.MethodName) method_5_code (1 : Nat) (Option.some Jvm.ClassFile.FieldType.boolean)).before args0 about1 = true := code_word (m := ⟨1, 4⟩) (meth := k1m4) (c := k1c4) (by decide +kernel) rfl rfl rfl (by decide +kernel)
set_option maxRecDepth 65536 in
theorem w_c5 : (Jvm.Cond.code ({ cls := "com/example/withhold/withhold/crypto/Ed25519ScalarsDigitsPinLaw", name := "carry", desc := "(JJ)J" } : Jvm.MethodName) method_4_code (8 : Nat) (Option.some Jvm.ClassFile.FieldType.long)).before args0 about1 = true := code_word (m := ⟨1, 3⟩) (meth := k1m3) (c := k1c3) (by decide +kernel) rfl rfl rfl (by decide +kernel)
set_option maxRecDepth 65536 in
theorem w_c6 : (Jvm.Cond.code ({ cls := "com/example/withhold/withhold/crypto/Ed25519ScalarsDigitsPinLaw", name := "horner", desc := "([BI)J" } : Jvm.MethodName) method_7_code (4 : Nat) (Option.some Jvm.ClassFile.FieldType.long)).before args0 about1 = true := code_word (m := ⟨1, 6⟩) (meth := k1m6) (c := k1c6) (by decide +kernel) rfl rfl rfl (by decide +kernel)
def codes1 : List Jvm.Cond := [Jvm.Cond.code x code maxLocals ret, Jvm.Cond.code ({ cls := "com/example/withhold/withhold/crypto/Ed25519ScalarsDigitsPinLaw", name := "put", desc := "([BIJ)V" } : Jvm.MethodName) method_3_code (4 : Nat) (Option.none : Option Jvm.ClassFile.FieldType), Jvm.Cond.code ({ cls := "com/example/withhold/withhold/crypto/Ed25519Scalars", name := "digits", desc := "([B)[B" } : Jvm.MethodName) prog_1_method_4_code (4 : Nat) (Option.some (Jvm.ClassFile.FieldType.array Jvm.ClassFile.FieldType.byte)), Jvm.Cond.code ({ cls := "com/example/withhold/withhold/crypto/Ed25519ScalarsDigitsPinLaw", name := "chunkOk", desc := "([BI)Z" } : Jvm.MethodName) method_6_code (2 : Nat) (Option.some Jvm.ClassFile.FieldType.boolean), Jvm.Cond.code ({ cls := "com/example/withhold/withhold/crypto/Ed25519ScalarsDigitsPinLaw", name := "ok", desc := "(I)Z" } : Jvm.MethodName) method_5_code (1 : Nat) (Option.some Jvm.ClassFile.FieldType.boolean), Jvm.Cond.code ({ cls := "com/example/withhold/withhold/crypto/Ed25519ScalarsDigitsPinLaw", name := "carry", desc := "(JJ)J" } : Jvm.MethodName) method_4_code (8 : Nat) (Option.some Jvm.ClassFile.FieldType.long), Jvm.Cond.code ({ cls := "com/example/withhold/withhold/crypto/Ed25519ScalarsDigitsPinLaw", name := "horner", desc := "([BI)J" } : Jvm.MethodName) method_7_code (4 : Nat) (Option.some Jvm.ClassFile.FieldType.long)]
set_option maxRecDepth 65536 in
theorem codes_eq : words1.filter isCode = codes1 := rfl
theorem w_codes : ∀ c ∈ words1.filter isCode, c.before args0 about1 = true := by
  rw [codes_eq]
  intro c hc
  simp only [codes1, List.mem_cons, List.not_mem_nil, or_false] at hc
  rcases hc with rfl | rfl | rfl | rfl | rfl | rfl | rfl
  · exact w_c0
  · exact w_c1
  · exact w_c2
  · exact w_c3
  · exact w_c4
  · exact w_c5
  · exact w_c6
set_option maxRecDepth 65536 in
theorem w_t1 : (words1.take 24).all (fun c => isCode c || c.before args0 about1) = true := by decide +kernel
set_option maxRecDepth 65536 in
theorem w_t2 : (words1.drop 24).all (fun c => isCode c || c.before args0 about1) = true := by decide +kernel
theorem w_tables : (allAtoms (Jvm.Cond.code x code maxLocals ret :: tables_1)).before args0 about1 = true := by
  rw [allAtoms_all]
  show words1.all (fun c => c.before args0 about1) = true
  refine all_split ?_ w_codes
  rw [← List.take_append_drop 24 words1, List.all_append, w_t1, w_t2]
  rfl
set_option maxRecDepth 65536 in
theorem w_case : (Jvm.Cond.and given_1 narrow_1).before args0 about1 = true := by decide +kernel
theorem w_applies : (headSpec (Jvm.Cond.code x code maxLocals ret :: tables_1) room_1).applies x e0.platform about1 = true :=
  (Spec.applies_iff w_frames).mpr ⟨w_running, w_runnable, w_alone, w_named, w_hears, w_ripe, w_room, w_tables⟩
theorem atStart : AtStart classFile x code maxLocals ret World_1 tables_1 room_1 Calls_1 rest_1 Pre_1 launch0 p0 e0 about1 theMethod args0 below0 :=
  ⟨lists_1, trivial, launch0.admits_env _ _ _, launch0.least_env, fairChoices_fair.cas, fairChoices_fair.clock, w_frames, w_args, w_heap, w_applies, trivial, trivial, w_case⟩
end start1
theorem witness_1 : WitnessClaimed_1 := ⟨start1.p0, start1.e0, start1.about1, start1.theMethod, start1.args0, start1.below0, start1.atStart⟩
end Jvm.Pilot.@@N@@
