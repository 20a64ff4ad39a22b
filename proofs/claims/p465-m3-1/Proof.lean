import JvmDerived
import JvmDerived.Pilot.@@N@@Statement
import JvmDerived.Pilot.@@N@@Code
set_option linter.unusedVariables false
set_option linter.unusedSimpArgs false
namespace Jvm.OwnGo
open Jvm Jvm.ClassFile Sem Op Lib Jvm.Free Jvm.Stand Jvm.LawKit Jvm.RoadKit Bundle
/-! THE GO KIT: a walk of a body told backwards: 'Go k h os cells slots pc Ls st': from pc with these locals and this stack, over the heap h, the body comes to its end as its contract says. -/
abbrev QT : Type := Option Value → Heap → List Addr → Prop
abbrev KT : Type := Program × Launch × Env × Room × State × MethodId × Array Value × List Frame × Method × Code × State × List (String × Nat) × Bool × List Addr × QT
def Own (Z : State) (h0 : Heap) (EL : List (String × Nat)) (wr : List Addr) (vm : Vm) (h : Heap) (x : Addr) : Prop :=
  Safe Z EL vm h x ∧ Z.heap.size ≤ x ∧ x < h.size ∧ (x ∈ wr ∨ h0.size ≤ x)
def Done (Z : State) (EL : List (String × Nat)) (wd : Bool) (R : Room) (wr : List Addr) (Q : QT) (s : State) (o : Outcome) (s' : State) : Prop :=
  ∃ v L os, o = .returned v ∧ Q v s'.heap os ∧ (∀ x ∈ os, Safe Z EL s'.vm s'.heap x ∧ s.heap.size ≤ x ∧ x < s'.heap.size) ∧ Keep s.heap s'.heap wr ∧ Fr Z.heap.size L ∧
    CHr Z EL s.vm s.heap s'.vm s'.heap ∧ ReturnedEndW s o s' L R.cells R.slots ∧ (wd = false → FrameEnd s o s' L R.cells R.slots)
def Fen (p : Program) (e : Env) (below : List Frame) (P : Outcome → State → Prop) (A : State) : Prop :=
  ∃ s' o, Steps p.tables e below A s' ∧ s'.status = .running ∧ Ended s' below o ∧ P o s'
theorem Fen.of {p : Program} {e : Env} {below : List Frame} {P : Outcome → State → Prop} {A B : State} (st : ∀ t, Steps p.tables e below B t → Steps p.tables e below A t) (F : Fen p e below P B) : Fen p e below P A := by
  obtain ⟨s', o, h1, h2⟩ := F
  exact ⟨s', o, st _ h1, h2⟩
def Go : KT → Heap → List Addr → Nat → Nat → Nat → Array Slot → List Value → Prop :=
  fun ⟨p, l, e, R, s, m, args, below, meth, c, Z, EL, wd, wr, Q⟩ h os cells slots pc Ls st =>
    ∀ (T : State) (locs : List Loc) (vm : Vm), Stand p l e R (s.setVm vm) m args below meth c T locs cells slots → T.heap = h → Fr Z.heap.size locs → s.Since vm h.size → (wd = false → s.WarmedH vm) →
      CHr Z EL s.vm s.heap vm h → Keep s.heap h wr → (∀ x ∈ os, Own Z s.heap EL wr vm h x) → Fen p e below (Done Z EL wd R wr Q s) (T.setTop (mkF m pc Ls st))
def Ctx (k : KT) (l : Launch) (y : MethodName) (bytes : ByteArray) (maxL : Nat) (ret : Option FieldType) (R : Room) (Z : State) (a0 : Array Value) (EL : List (String × Nat)) (wd : Bool) (wr : List Addr) (h0 : Heap) (Q : QT) : Prop :=
  match k with
  | ⟨p, l', e, R', s, m, args, below, meth, c, Z', EL', wd', wr', Q'⟩ => (l' = l ∧ R' = R ∧ Z' = Z ∧ EL' = EL ∧ wd' = wd ∧ wr' = wr ∧ Q' = Q ∧ s.heap = h0) ∧ p.tables.exec = Jvm.exec ∧ c.code = bytes ∧ c.maxLocals = maxL ∧ meth.sig.returnType = ret ∧
      meth.locks = false ∧ meth.name = y.name ∧ Z'.Warmed39 s.vm ∧ s.vm.findClass y.cls = some m.cls ∧ EW Z' a0 EL' ∧ Ext Z'.heap s.heap ∧ (∀ x ∈ wr, Z'.heap.size ≤ x)
/-- a body's contract -/
def Con (l : Launch) (Z : State) (EL : List (String × Nat)) (wd : Bool) (y : MethodName) (bytes : ByteArray) (maxL : Nat) (ret : Option FieldType) (rm : Room) (ws : List Jvm.Cond) (as' : Array Value) (h : Heap) (wr : List Addr) (Q : QT) : Prop :=
  MetFree l y (head1 (Cond.code y bytes maxL ret :: ws) rm) (fun a U => a = as' ∧ Z.Warmed39 U.vm ∧ U.heap = h ∧ CHv Z EL U.vm h ∧ Ext Z.heap h ∧ ∀ x ∈ wr, Safe Z EL U.vm h x ∧ Z.heap.size ≤ x ∧ x < h.size) (fun _ _ _ _ _ => True)
    (fun _ U o U' => Done Z EL wd rm wr Q U o U')
section Base
variable {p : Program} {l : Launch} {e : Env} {R : Room} {s : State} {m : MethodId} {args : Array Value} {below : List Frame} {meth : Method} {c : Code} {T T' : State} {locs locs' : List Loc} {cells slots cells' slots' : Nat}
variable {Z : State} {a0 : Array Value} {EL : List (String × Nat)} {wd : Bool} {wr ws os : List Addr} {h h' h0 : Heap} {vm vm' : Vm} {Q : QT}
theorem Since.up {n n' : Nat} (S : s.Since vm n) (q : n ≤ n') : s.Since vm n' := ⟨S.1, fun j p hj hp => ⟨(S.2 j p hj hp).1, Nat.lt_of_lt_of_le (S.2 j p hj hp).2 q⟩⟩
theorem Own.chr {x : Addr} (O : Own Z h0 EL wr vm h x) (A : CHr Z EL vm h vm' h') : Own Z h0 EL wr vm' h' x := ⟨A.safe O.2.2.1 O.1, O.2.1, Nat.lt_of_lt_of_le O.2.2.1 A.2.1, O.2.2.2⟩
theorem keepOs (K : Keep h0 h wr) (K' : Keep h h' ws) (ow : ∀ x ∈ os, Own Z h0 EL wr vm h x) (q : ∀ x ∈ ws, x ∈ os) : Keep h0 h' wr := K.trans K' fun x hx => (ow x (q x hx)).2.2.2
theorem Keep.ofExt (E : Ext h h') : Keep h h' ws := (Keep.refl h ws).ext E
theorem safeOs (ow : ∀ x ∈ os, Own Z h0 EL wr vm h x) (q : ∀ x ∈ ws, x ∈ os) : ∀ x ∈ ws, Safe Z EL vm h x := fun x hx => (ow x (q x hx)).1
end Base
/-! decode facts -/
def De (b : ByteArray) (pc : Nat) (i : Instr) (n pc' : Nat) : Prop := decode b pc = .ok (i, n) ∧ pc' = pc + n
def DeJ (b : ByteArray) (pc : Nat) (i : Int → Instr) (pc' pcT : Nat) : Prop := ∃ o : Int, decode b pc = .ok (i o, 3) ∧ pc' = pc + 3 ∧ 0 ≤ (pc : Int) + o ∧ ((pc : Int) + o).toNat = pcT
/-! facts of the heap: an object by its fields, an array by its values -/
abbrev FL : Type := List (String × String × String)
def Obj (Z : State) (h : Heap) (a : Addr) (C : String) (F : FL) (vs : List Value) : Prop := Exa Z h a C ∧ F.length = vs.length ∧ ∀ (i : Nat) (q : String × String × String) (v : Value), F[i]? = some q → vs[i]? = some v → Fld Z h a q.1 q.2.1 q.2.2 v
def Av (Z : State) (h : Heap) (a : Addr) (ty : FieldType) (vs : List Value) : Prop := ∃ (k : ClassId) (z : Int32), Arv Z h a k ty z vs (defaultValue ty) ∧ z.toNatClampNeg = vs.length
def LaidL (Z : State) (a0 : Array Value) (C : String) : FL → Prop
  | [] => True
  | q :: r => (Laid Z a0 C q.1 q.2.1 q.2.2 ∧ ∃ t, parseFieldDescriptor q.2.2 = some t) ∧ LaidL Z a0 C r
section Facts
variable {Z : State} {a0 : Array Value} {h h' : Heap} {a b : Addr} {C : String} {F : FL} {vs : List Value} {ws : List Addr} {ty : FieldType}
theorem LaidL.at {q : String × String × String} : ∀ {F : FL}, LaidL Z a0 C F → q ∈ F → Laid Z a0 C q.1 q.2.1 q.2.2 ∧ ∃ t, parseFieldDescriptor q.2.2 = some t
  | [], _, hq => nomatch hq
  | x :: r, L, hq => by
    rcases List.mem_cons.mp hq with rfl | hq
    · exact L.1
    · exact LaidL.at L.2 hq
theorem Obj.lt (O : Obj Z h a C F vs) : a < h.size := O.1.lt
theorem Obj.keep (O : Obj Z h a C F vs) (K : Keep h h' ws) (q : a ∉ ws) : Obj Z h' a C F vs := ⟨O.1.keep K, O.2.1, fun i p v h1 h2 => (O.2.2 i p v h1 h2).keep K q⟩
theorem Obj.k0 (O : Obj Z h a C F vs) (K : Keep h h' []) : Obj Z h' a C F vs := O.keep K nin0
theorem Obj.k1 (O : Obj Z h a C F vs) (K : Keep h h' [b]) (q : a ≠ b) : Obj Z h' a C F vs := O.keep K (ninS q nin0)
theorem Av.lt (O : Av Z h a ty vs) : a < h.size := by obtain ⟨k, z, A, -⟩ := O; exact A.lt
theorem Av.keep (O : Av Z h a ty vs) (K : Keep h h' ws) (q : a ∉ ws) : Av Z h' a ty vs := by obtain ⟨k, z, A, e⟩ := O; exact ⟨k, z, A.keep K q, e⟩
theorem Av.k0 (O : Av Z h a ty vs) (K : Keep h h' []) : Av Z h' a ty vs := O.keep K nin0
theorem Av.k1 (O : Av Z h a ty vs) (K : Keep h h' [b]) (q : a ≠ b) : Av Z h' a ty vs := O.keep K (ninS q nin0)
theorem Obj.new {A : Exa Z h a C} (D : ∀ {O nm d : String} {ty : FieldType}, Laid Z a0 C O nm d → parseFieldDescriptor d = some ty → Fld Z h a O nm d (defaultValue ty)) (L : LaidL Z a0 C F) (dv : F.map (fun q => (parseFieldDescriptor q.2.2).map defaultValue) = vs.map some) : Obj Z h a C F vs := by
  refine ⟨A, by simpa using congrArg List.length dv, fun i q v h1 h2 => ?_⟩
  obtain ⟨l1, t, l2⟩ := L.at (List.mem_of_getElem? h1)
  have e := congrArg (fun l => l[i]?) dv
  simp only [List.getElem?_map, h1, h2, Option.map_some, l2, Option.some.injEq] at e
  rw [← e]; exact D l1 l2
theorem nodup_ne {α : Type} : ∀ {l : List α} {i j : Nat} {x y : α}, l.Nodup → l[i]? = some x → l[j]? = some y → i ≠ j → x ≠ y := fun {l i j x y} hn h1 h2 hij e => by
  subst e
  obtain ⟨hi, e1⟩ := List.getElem?_eq_some_iff.mp h1
  obtain ⟨hj, e2⟩ := List.getElem?_eq_some_iff.mp h2
  exact hij ((List.getElem_inj hn).mp (e1.trans e2.symm))
theorem Obj.put {q : String × String × String} {v : Value} {i : Nat} (O : Obj Z h a C F vs) (W : Wr h h' a (RoadKit.slotOf Z q.1 q.2.1 q.2.2) v) (hq : F[i]? = some q) (L : LaidL Z a0 C F) (nd : (F.map (fun q => q.2.1)).Nodup) : Obj Z h' a C F (vs.set i v) := by
  refine ⟨O.1.wr W, by simpa using O.2.1, fun j p w h1 h2 => ?_⟩
  obtain ⟨l1, t, l2⟩ := L.at (List.mem_of_getElem? hq)
  obtain ⟨m1, u, m2⟩ := L.at (List.mem_of_getElem? h1)
  have hj : j < vs.length := by rw [← O.2.1]; exact (List.getElem?_eq_some_iff.mp h1).1
  by_cases e : i = j
  · subst e
    rw [hq] at h1; cases h1
    simp [hj] at h2; subst h2
    exact (O.2.2 i q _ hq (List.getElem?_eq_getElem hj)).same W
  · rw [List.getElem?_set_ne e] at h2
    refine (O.2.2 j p w h1 h2).other W (Or.inr ?_)
    have hn : p.2.1 ≠ q.2.1 := nodup_ne nd (i := j) (j := i) (by simp [h1]) (by simp [hq]) (fun z => e z.symm)
    exact slot_ne m1 l1 hn m2 l2
theorem Av.len (V : Av Z h a ty vs) : vs.length < 2147483648 := by
  obtain ⟨k, z, ⟨c, A, r1, r2, r3, H, G⟩, e⟩ := V
  rw [← e]; exact (back32 r3).2
theorem Av.lenI {bs : List Int32} (V : Av Z h a ty (List.map Value.int bs)) : bs.length < 2147483648 := by have := V.len; rwa [List.length_map] at this
theorem Av.new {k : ClassId} {z : Int32} (A : Arr Z h a (newA k ty z) ty) (q : ¬ z < 0) {n : Nat} (hn : z.toNatClampNeg = n) : Av Z h a ty (List.replicate n (defaultValue ty)) :=
  ⟨k, z, by have := (Arv.new A q).pad (pad_rep [] (defaultValue ty) n); simpa using this, by simpa using hn⟩
theorem Av.fit (V : Av Z h a ty vs) {i : Nat} {v : Value} (hv : vs[i]? = some v) : fits ty v = true := by
  obtain ⟨k, z, ⟨c, A, r1, r2, r3, H, G⟩, e⟩ := V
  have hi := (List.getElem?_eq_some_iff.mp hv).1
  have g := G i (by rw [r2, e]; exact hi)
  rw [List.getD_eq_getElem?_getD, hv] at g; exact g
end Facts
/-- a Latin-1 String: its object a, its bytes at t -/
def fStr : FL := [("java/lang/String", "value", "[B"), ("java/lang/String", "coder", "B")]
def Str (Z : State) (h : Heap) (a t : Addr) (bs : List Int32) : Prop := Obj Z h a "java/lang/String" fStr [.ref t, .int 0] ∧ Av Z h t .byte (bs.map .int)
section StrFacts
variable {Z : State} {h h' : Heap} {a t : Addr} {bs : List Int32} {ws : List Addr}
theorem Str.exa (S : Str Z h a t bs) : Exa Z h a "java/lang/String" := S.1.1
theorem Str.lt (S : Str Z h a t bs) : a < h.size := S.1.lt
theorem Str.lt1 (S : Str Z h a t bs) : t < h.size := S.2.lt
theorem Str.keep (S : Str Z h a t bs) (K : Keep h h' ws) (q1 : a ∉ ws) (q2 : t ∉ ws) : Str Z h' a t bs := ⟨S.1.keep K q1, S.2.keep K q2⟩
theorem Str.k0 (S : Str Z h a t bs) (K : Keep h h' []) : Str Z h' a t bs := S.keep K nin0 nin0
theorem Fld.det {Z : State} {h : Heap} {a : Addr} {C n d : String} {v w : Value} (F : Fld Z h a C n d v) (G : Fld Z h a C n d w) : v = w := Decidable.byContradiction fun q => Fld.ne F G q rfl
theorem Av.det {Z : State} {h : Heap} {a : Addr} {ty : FieldType} {vs vs' : List Value} (V : Av Z h a ty vs) (V' : Av Z h a ty vs') : vs = vs' := by
  obtain ⟨k, z, ⟨c, A, r1, r2, r3, H, G⟩, e⟩ := V
  obtain ⟨k', z', ⟨c', A', r1', r2', r3', H', G'⟩, e'⟩ := V'
  cases A.1.symm.trans A'.1
  have hl : vs.length = vs'.length := by rw [← e, ← e', ← r2, ← r2']
  refine List.ext_getElem hl fun i h1 h2 => ?_
  have a1 := H i (by rw [r2, e]; exact h1)
  have a2 := H' i (by rw [r2', e']; exact h2)
  rw [a1] at a2
  simpa [List.getD_eq_getElem?_getD, h1, h2] using a2
theorem map_int_inj {xs ys : List Int32} (q : xs.map Value.int = ys.map Value.int) : xs = ys := (List.map_inj_right (fun _ _ z => Value.int.inj z)).mp q
theorem Str.det {bs' : List Int32} {t' : Addr} (S : Str Z h a t bs) (S' : Str Z h a t' bs') : t = t' ∧ bs = bs' := by
  have e : (Value.ref t) = .ref t' := Fld.det (S.1.2.2 0 _ _ rfl rfl) (S'.1.2.2 0 _ _ rfl rfl)
  cases e
  exact ⟨rfl, map_int_inj (Av.det S.2 S'.2)⟩
end StrFacts
/-- an array of references, whose class's components are C's -/
def Avr (Z : State) (h : Heap) (a : Addr) (C : String) (vs : List Value) : Prop := ∃ (k : ClassId) (z : Int32), Arv Z h a k (.object C) z vs .null ∧ z.toNatClampNeg = vs.length ∧ Ovr Z k C
theorem Avr.av {Z : State} {h : Heap} {a : Addr} {C : String} {vs : List Value} (V : Avr Z h a C vs) : Av Z h a (.object C) vs := by obtain ⟨k, z, A, e, -⟩ := V; exact ⟨k, z, A, e⟩
theorem Avr.lt {Z : State} {h : Heap} {a : Addr} {C : String} {vs : List Value} (V : Avr Z h a C vs) : a < h.size := V.av.lt
theorem Avr.keep {Z : State} {h h' : Heap} {a : Addr} {C : String} {vs : List Value} {ws : List Addr} (V : Avr Z h a C vs) (K : Keep h h' ws) (q : a ∉ ws) : Avr Z h' a C vs := by obtain ⟨k, z, A, e, O⟩ := V; exact ⟨k, z, A.keep K q, e, O⟩
theorem Avr.k0 {Z : State} {h h' : Heap} {a : Addr} {C : String} {vs : List Value} (V : Avr Z h a C vs) (K : Keep h h' []) : Avr Z h' a C vs := V.keep K nin0
theorem cat_ref {v : Value} (q : v.isRef = true) : v.category = 1 := by rcases ref_cases q with rfl | ⟨a, rfl⟩ <;> rfl
theorem catI (x : Int32) : (Value.int x).category = 1 := rfl
theorem catJ (x : Int64) : (Value.long x).category = 2 := rfl
theorem catD (x : UInt64) : (Value.double x).category = 2 := rfl
theorem catR (a : Addr) : (Value.ref a).category = 1 := rfl
theorem catN : (Value.null).category = 1 := rfl
theorem fits_refv {ty : FieldType} {v : Value} (ht : ty.isReference = true) (hv : v.isRef = true) : fits ty v = true := by rcases ref_cases hv with rfl | ⟨a, rfl⟩ <;> cases ty <;> first | rfl | cases ht
theorem nar01 {z : Int32} (q : z = 0 ∨ z = 1) : narrow .boolean (.int z) = .int z ∧ fits .boolean (.int z) = true := by rcases q with rfl | rfl <;> exact ⟨rfl, rfl⟩
/-- a local that holds nothing or one word -/
def Sl (s : Slot) : Prop := s = .unset ∨ ∃ v, s = .val v ∧ v.category = 1
theorem Sl.u : Sl .unset := Or.inl rfl
theorem Sl.val {v : Value} (q : v.category = 1) : Sl (.val v) := Or.inr ⟨v, rfl, q⟩
theorem sto1 {Ls Ls' : Array Slot} {n : Nat} {v : Value} {s : Slot} (hold : Ls[n]? = some s) (hs : Sl s) (hv : v.category = 1) (e : Ls.setIfInBounds n (.val v) = Ls') : storeLocals Ls n v = some Ls' := e ▸ XS.store1 hold hs hv
section Small
theorem nI_int {n : Nat} (q : n < 2147483648) : (Int32.ofNat n).toInt = n := Int32.toInt_ofNat_of_lt q
theorem nI_nat {n : Nat} (q : n < 2147483648) : (Int32.ofNat n).toNatClampNeg = n := by rw [Int32.toNatClampNeg, nI_int q]; rfl
theorem nI_nn {n : Nat} (q : n < 2147483648) : ¬ Int32.ofNat n < 0 := by rw [Int32.lt_iff_toInt_lt, nI_int q]; show ¬ (n : Int) < 0; omega
theorem nI_lt {i n : Nat} (q1 : i < 2147483648) (q2 : n < 2147483648) : Int32.ofNat i < Int32.ofNat n ↔ i < n := by rw [Int32.lt_iff_toInt_lt, nI_int q1, nI_int q2]; omega
theorem nI_eq {i n : Nat} (q1 : i < 2147483648) (q2 : n < 2147483648) : Int32.ofNat i = Int32.ofNat n ↔ i = n := by rw [← Int32.toInt_inj, nI_int q1, nI_int q2]; omega
theorem nI_succ (i : Nat) : Int32.ofNat i + Int32.ofInt 1 = Int32.ofNat (i + 1) := by rw [Int32.ofNat_add]; rfl
theorem nI_nn' {x : Int32} (q : ¬ x < 0) : x = Int32.ofNat x.toNatClampNeg ∧ x.toNatClampNeg < 2147483648 := ⟨(back32 q).1.symm, (back32 q).2⟩
end Small
section Steps
variable {l : Launch} {y : MethodName} {bytes : ByteArray} {maxL : Nat} {ret : Option FieldType} {R : Room} {Z : State} {a0 : Array Value} {EL : List (String × Nat)} {wd : Bool} {wr : List Addr} {h0 : Heap} {Q : QT} {h : Heap} {os : List Addr} {cells slots : Nat} {Ls : Array Slot} {st : List Value}
theorem Go.pure {k : KT} (C : Ctx k l y bytes maxL ret R Z a0 EL wd wr h0 Q) {pc pc' : Nat} {Ls' : Array Slot} {st' : List Value}
    (hs : ∀ {p : Program} {e : Env} {below : List Frame} {T target : State} {m : MethodId} {c : Code}, p.tables.exec = Jvm.exec → c.code = bytes → At T m c below → Steps p.tables e below (T.setTop (mkF m pc' Ls' st')) target → Steps p.tables e below (T.setTop (mkF m pc Ls st)) target)
    (K : Go k h os cells slots pc' Ls' st') : Go k h os cells slots pc Ls st := by
  obtain ⟨p, l', e, R', s, m, args, below, meth, c, Z', EL', wd', wr', Q'⟩ := k
  obtain ⟨-, hx, hc, -⟩ := C
  intro T locs vm X e0 N S w A Kp ow
  exact Fen.of (fun t kt => hs hx hc X.here kt) (K T locs vm X e0 N S w A Kp ow)
theorem Go.iload {k : KT} (C : Ctx k l y bytes maxL ret R Z a0 EL wd wr h0 Q) {pc pc' : Nat} {n : Nat} {x : Int32} (hd : De bytes pc (.iload n) 2 pc') (hl : Ls[n]? = some (.val (.int x))) (K : Go k h os cells slots pc' Ls (.int x :: st)) : Go k h os cells slots pc Ls (st) :=
  Go.pure C (fun hx hc X kt => by obtain ⟨h1, rfl⟩ := hd; exact XS.iload X hx rfl (hb hc h1) hl kt) K
theorem Go.iloadN {k : KT} (C : Ctx k l y bytes maxL ret R Z a0 EL wd wr h0 Q) {pc pc' : Nat} {n : Fin 4} {x : Int32} (hd : De bytes pc (.iload_n n) 1 pc') (hl : Ls[n.val]? = some (.val (.int x))) (K : Go k h os cells slots pc' Ls (.int x :: st)) : Go k h os cells slots pc Ls (st) :=
  Go.pure C (fun hx hc X kt => by obtain ⟨h1, rfl⟩ := hd; exact XS.iloadN X hx rfl (hb hc h1) hl kt) K
theorem Go.lload {k : KT} (C : Ctx k l y bytes maxL ret R Z a0 EL wd wr h0 Q) {pc pc' : Nat} {n : Nat} {x : Int64} (hd : De bytes pc (.lload n) 2 pc') (hl : Ls[n]? = some (.val (.long x))) (K : Go k h os cells slots pc' Ls (.long x :: st)) : Go k h os cells slots pc Ls (st) :=
  Go.pure C (fun hx hc X kt => by obtain ⟨h1, rfl⟩ := hd; exact XS.lload X hx rfl (hb hc h1) hl kt) K
theorem Go.lloadN {k : KT} (C : Ctx k l y bytes maxL ret R Z a0 EL wd wr h0 Q) {pc pc' : Nat} {n : Fin 4} {x : Int64} (hd : De bytes pc (.lload_n n) 1 pc') (hl : Ls[n.val]? = some (.val (.long x))) (K : Go k h os cells slots pc' Ls (.long x :: st)) : Go k h os cells slots pc Ls (st) :=
  Go.pure C (fun hx hc X kt => by obtain ⟨h1, rfl⟩ := hd; exact XS.lloadN X hx rfl (hb hc h1) hl kt) K
theorem Go.aload {k : KT} (C : Ctx k l y bytes maxL ret R Z a0 EL wd wr h0 Q) {pc pc' : Nat} {n : Nat} {v : Value} (hd : De bytes pc (.aload n) 2 pc') (hl : Ls[n]? = some (.val v)) (hv : v.isRef = true) (K : Go k h os cells slots pc' Ls (v :: st)) : Go k h os cells slots pc Ls (st) :=
  Go.pure C (fun hx hc X kt => by obtain ⟨h1, rfl⟩ := hd; exact XS.aload X hx rfl (hb hc h1) hl hv kt) K
theorem Go.aloadN {k : KT} (C : Ctx k l y bytes maxL ret R Z a0 EL wd wr h0 Q) {pc pc' : Nat} {n : Fin 4} {v : Value} (hd : De bytes pc (.aload_n n) 1 pc') (hl : Ls[n.val]? = some (.val v)) (hv : v.isRef = true) (K : Go k h os cells slots pc' Ls (v :: st)) : Go k h os cells slots pc Ls (st) :=
  Go.pure C (fun hx hc X kt => by obtain ⟨h1, rfl⟩ := hd; exact XS.aloadN X hx rfl (hb hc h1) hl hv kt) K
theorem Go.istore {k : KT} (C : Ctx k l y bytes maxL ret R Z a0 EL wd wr h0 Q) {pc pc' : Nat} {n : Nat} {x : Int32} {Ls' : Array Slot} (hd : De bytes pc (.istore n) 2 pc') (hl : storeLocals Ls n (.int x) = some Ls') (K : Go k h os cells slots pc' Ls' (st)) : Go k h os cells slots pc Ls (.int x :: st) :=
  Go.pure C (fun hx hc X kt => by obtain ⟨h1, rfl⟩ := hd; exact XS.istore X hx rfl (hb hc h1) rfl hl kt) K
theorem Go.istoreN {k : KT} (C : Ctx k l y bytes maxL ret R Z a0 EL wd wr h0 Q) {pc pc' : Nat} {n : Fin 4} {x : Int32} {Ls' : Array Slot} (hd : De bytes pc (.istore_n n) 1 pc') (hl : storeLocals Ls n.val (.int x) = some Ls') (K : Go k h os cells slots pc' Ls' (st)) : Go k h os cells slots pc Ls (.int x :: st) :=
  Go.pure C (fun hx hc X kt => by obtain ⟨h1, rfl⟩ := hd; exact XS.istoreN X hx rfl (hb hc h1) rfl hl kt) K
theorem Go.lstore {k : KT} (C : Ctx k l y bytes maxL ret R Z a0 EL wd wr h0 Q) {pc pc' : Nat} {n : Nat} {x : Int64} {Ls' : Array Slot} (hd : De bytes pc (.lstore n) 2 pc') (hl : storeLocals Ls n (.long x) = some Ls') (K : Go k h os cells slots pc' Ls' (st)) : Go k h os cells slots pc Ls (.long x :: st) :=
  Go.pure C (fun hx hc X kt => by obtain ⟨h1, rfl⟩ := hd; exact XS.lstore X hx rfl (hb hc h1) rfl hl kt) K
theorem Go.lstoreN {k : KT} (C : Ctx k l y bytes maxL ret R Z a0 EL wd wr h0 Q) {pc pc' : Nat} {n : Fin 4} {x : Int64} {Ls' : Array Slot} (hd : De bytes pc (.lstore_n n) 1 pc') (hl : storeLocals Ls n.val (.long x) = some Ls') (K : Go k h os cells slots pc' Ls' (st)) : Go k h os cells slots pc Ls (.long x :: st) :=
  Go.pure C (fun hx hc X kt => by obtain ⟨h1, rfl⟩ := hd; exact XS.lstoreN X hx rfl (hb hc h1) rfl hl kt) K
theorem Go.astore {k : KT} (C : Ctx k l y bytes maxL ret R Z a0 EL wd wr h0 Q) {pc pc' : Nat} {n : Nat} {v : Value} {Ls' : Array Slot} (hd : De bytes pc (.astore n) 2 pc') (hv : v.isRef = true) (hl : storeLocals Ls n v = some Ls') (K : Go k h os cells slots pc' Ls' (st)) : Go k h os cells slots pc Ls (v :: st) :=
  Go.pure C (fun hx hc X kt => by obtain ⟨h1, rfl⟩ := hd; exact XS.astore X hx rfl (hb hc h1) rfl hv hl kt) K
theorem Go.astoreN {k : KT} (C : Ctx k l y bytes maxL ret R Z a0 EL wd wr h0 Q) {pc pc' : Nat} {n : Fin 4} {v : Value} {Ls' : Array Slot} (hd : De bytes pc (.astore_n n) 1 pc') (hv : v.isRef = true) (hl : storeLocals Ls n.val v = some Ls') (K : Go k h os cells slots pc' Ls' (st)) : Go k h os cells slots pc Ls (v :: st) :=
  Go.pure C (fun hx hc X kt => by obtain ⟨h1, rfl⟩ := hd; exact XS.astoreN X hx rfl (hb hc h1) rfl hv hl kt) K
theorem Go.iinc {k : KT} (C : Ctx k l y bytes maxL ret R Z a0 EL wd wr h0 Q) {pc pc' : Nat} {n : Nat} {cst : Int} {x : Int32} (x' : Int32) {Ls' : Array Slot} (hd : De bytes pc (.iinc n cst) 3 pc') (hl : Ls[n]? = some (.val (.int x))) (hx' : x + Int32.ofInt cst = x') (hl' : storeLocals Ls n (.int x') = some Ls') (K : Go k h os cells slots pc' Ls' (st)) : Go k h os cells slots pc Ls (st) :=
  Go.pure C (fun hx hc X kt => by obtain ⟨h1, rfl⟩ := hd; exact XS.iinc X hx rfl (hb hc h1) hl (by rw [hx']; exact hl') kt) K
theorem Go.iconst {k : KT} (C : Ctx k l y bytes maxL ret R Z a0 EL wd wr h0 Q) {pc pc' : Nat} {i : Int} (v : Int32) (hd : De bytes pc (.iconst i) 1 pc') (hv : Int32.ofInt i = v) (K : Go k h os cells slots pc' Ls (.int v :: st)) : Go k h os cells slots pc Ls (st) :=
  Go.pure C (fun hx hc X kt => by obtain ⟨h1, rfl⟩ := hd; exact XS.iconst X hx rfl (hb hc h1) (by rw [hv]; exact kt)) K
theorem Go.bipush {k : KT} (C : Ctx k l y bytes maxL ret R Z a0 EL wd wr h0 Q) {pc pc' : Nat} {i : Int} (v : Int32) (hd : De bytes pc (.bipush i) 2 pc') (hv : (Int8.ofInt i).toInt32 = v) (K : Go k h os cells slots pc' Ls (.int v :: st)) : Go k h os cells slots pc Ls (st) :=
  Go.pure C (fun hx hc X kt => by obtain ⟨h1, rfl⟩ := hd; exact XS.bipush X hx rfl (hb hc h1) (by rw [hv]; exact kt)) K
theorem Go.sipush {k : KT} (C : Ctx k l y bytes maxL ret R Z a0 EL wd wr h0 Q) {pc pc' : Nat} {i : Int} (v : Int32) (hd : De bytes pc (.sipush i) 3 pc') (hv : (Int16.ofInt i).toInt32 = v) (K : Go k h os cells slots pc' Ls (.int v :: st)) : Go k h os cells slots pc Ls (st) :=
  Go.pure C (fun hx hc X kt => by obtain ⟨h1, rfl⟩ := hd; exact XS.sipush X hx rfl (hb hc h1) (by rw [hv]; exact kt)) K
theorem Go.lconst {k : KT} (C : Ctx k l y bytes maxL ret R Z a0 EL wd wr h0 Q) {pc pc' : Nat} {i : Fin 2} (v : Int64) (hd : De bytes pc (.lconst i) 1 pc') (hv : Int64.ofNat i = v) (K : Go k h os cells slots pc' Ls (.long v :: st)) : Go k h os cells slots pc Ls (st) :=
  Go.pure C (fun hx hc X kt => by obtain ⟨h1, rfl⟩ := hd; exact XS.lconst X hx rfl (hb hc h1) (by rw [hv]; exact kt)) K
theorem Go.aconstNull {k : KT} (C : Ctx k l y bytes maxL ret R Z a0 EL wd wr h0 Q) {pc pc' : Nat}  (hd : De bytes pc (.aconst_null) 1 pc') (K : Go k h os cells slots pc' Ls (.null :: st)) : Go k h os cells slots pc Ls (st) :=
  Go.pure C (fun hx hc X kt => by obtain ⟨h1, rfl⟩ := hd; exact XS.aconstNull X hx rfl (hb hc h1) kt) K
theorem Go.iadd {k : KT} (C : Ctx k l y bytes maxL ret R Z a0 EL wd wr h0 Q) {pc pc' : Nat} {x y' : Int32} (hd : De bytes pc (.iadd) 1 pc') (K : Go k h os cells slots pc' Ls (.int (x + y') :: st)) : Go k h os cells slots pc Ls (.int y' :: .int x :: st) :=
  Go.pure C (fun hx hc X kt => by obtain ⟨h1, rfl⟩ := hd; exact XS.iadd X hx rfl (hb hc h1) rfl kt) K
theorem Go.isub {k : KT} (C : Ctx k l y bytes maxL ret R Z a0 EL wd wr h0 Q) {pc pc' : Nat} {x y' : Int32} (hd : De bytes pc (.isub) 1 pc') (K : Go k h os cells slots pc' Ls (.int (x - y') :: st)) : Go k h os cells slots pc Ls (.int y' :: .int x :: st) :=
  Go.pure C (fun hx hc X kt => by obtain ⟨h1, rfl⟩ := hd; exact XS.isub X hx rfl (hb hc h1) rfl kt) K
theorem Go.imul {k : KT} (C : Ctx k l y bytes maxL ret R Z a0 EL wd wr h0 Q) {pc pc' : Nat} {x y' : Int32} (hd : De bytes pc (.imul) 1 pc') (K : Go k h os cells slots pc' Ls (.int (x * y') :: st)) : Go k h os cells slots pc Ls (.int y' :: .int x :: st) :=
  Go.pure C (fun hx hc X kt => by obtain ⟨h1, rfl⟩ := hd; exact XS.imul X hx rfl (hb hc h1) rfl kt) K
theorem Go.iand {k : KT} (C : Ctx k l y bytes maxL ret R Z a0 EL wd wr h0 Q) {pc pc' : Nat} {x y' : Int32} (hd : De bytes pc (.iand) 1 pc') (K : Go k h os cells slots pc' Ls (.int (x &&& y') :: st)) : Go k h os cells slots pc Ls (.int y' :: .int x :: st) :=
  Go.pure C (fun hx hc X kt => by obtain ⟨h1, rfl⟩ := hd; exact XS.iand X hx rfl (hb hc h1) rfl kt) K
theorem Go.ior {k : KT} (C : Ctx k l y bytes maxL ret R Z a0 EL wd wr h0 Q) {pc pc' : Nat} {x y' : Int32} (hd : De bytes pc (.ior) 1 pc') (K : Go k h os cells slots pc' Ls (.int (x ||| y') :: st)) : Go k h os cells slots pc Ls (.int y' :: .int x :: st) :=
  Go.pure C (fun hx hc X kt => by obtain ⟨h1, rfl⟩ := hd; exact XS.ior X hx rfl (hb hc h1) rfl kt) K
theorem Go.ixor {k : KT} (C : Ctx k l y bytes maxL ret R Z a0 EL wd wr h0 Q) {pc pc' : Nat} {x y' : Int32} (hd : De bytes pc (.ixor) 1 pc') (K : Go k h os cells slots pc' Ls (.int (x ^^^ y') :: st)) : Go k h os cells slots pc Ls (.int y' :: .int x :: st) :=
  Go.pure C (fun hx hc X kt => by obtain ⟨h1, rfl⟩ := hd; exact XS.ixor X hx rfl (hb hc h1) rfl kt) K
theorem Go.ishl {k : KT} (C : Ctx k l y bytes maxL ret R Z a0 EL wd wr h0 Q) {pc pc' : Nat} {x y' : Int32} (hd : De bytes pc (.ishl) 1 pc') (K : Go k h os cells slots pc' Ls (.int (x <<< (y' &&& 31)) :: st)) : Go k h os cells slots pc Ls (.int y' :: .int x :: st) :=
  Go.pure C (fun hx hc X kt => by obtain ⟨h1, rfl⟩ := hd; exact XS.ishl X hx rfl (hb hc h1) rfl kt) K
theorem Go.ishr {k : KT} (C : Ctx k l y bytes maxL ret R Z a0 EL wd wr h0 Q) {pc pc' : Nat} {x y' : Int32} (hd : De bytes pc (.ishr) 1 pc') (K : Go k h os cells slots pc' Ls (.int (x >>> (y' &&& 31)) :: st)) : Go k h os cells slots pc Ls (.int y' :: .int x :: st) :=
  Go.pure C (fun hx hc X kt => by obtain ⟨h1, rfl⟩ := hd; exact XS.ishr X hx rfl (hb hc h1) rfl kt) K
theorem Go.iushr {k : KT} (C : Ctx k l y bytes maxL ret R Z a0 EL wd wr h0 Q) {pc pc' : Nat} {x y' : Int32} (hd : De bytes pc (.iushr) 1 pc') (K : Go k h os cells slots pc' Ls (.int ((x.toUInt32 >>> (y' &&& 31).toUInt32).toInt32) :: st)) : Go k h os cells slots pc Ls (.int y' :: .int x :: st) :=
  Go.pure C (fun hx hc X kt => by obtain ⟨h1, rfl⟩ := hd; exact XS.iushr X hx rfl (hb hc h1) rfl kt) K
theorem Go.ladd {k : KT} (C : Ctx k l y bytes maxL ret R Z a0 EL wd wr h0 Q) {pc pc' : Nat} {x y' : Int64} (hd : De bytes pc (.ladd) 1 pc') (K : Go k h os cells slots pc' Ls (.long (x + y') :: st)) : Go k h os cells slots pc Ls (.long y' :: .long x :: st) :=
  Go.pure C (fun hx hc X kt => by obtain ⟨h1, rfl⟩ := hd; exact XS.ladd X hx rfl (hb hc h1) rfl kt) K
theorem Go.lsub {k : KT} (C : Ctx k l y bytes maxL ret R Z a0 EL wd wr h0 Q) {pc pc' : Nat} {x y' : Int64} (hd : De bytes pc (.lsub) 1 pc') (K : Go k h os cells slots pc' Ls (.long (x - y') :: st)) : Go k h os cells slots pc Ls (.long y' :: .long x :: st) :=
  Go.pure C (fun hx hc X kt => by obtain ⟨h1, rfl⟩ := hd; exact XS.lsub X hx rfl (hb hc h1) rfl kt) K
theorem Go.lmul {k : KT} (C : Ctx k l y bytes maxL ret R Z a0 EL wd wr h0 Q) {pc pc' : Nat} {x y' : Int64} (hd : De bytes pc (.lmul) 1 pc') (K : Go k h os cells slots pc' Ls (.long (x * y') :: st)) : Go k h os cells slots pc Ls (.long y' :: .long x :: st) :=
  Go.pure C (fun hx hc X kt => by obtain ⟨h1, rfl⟩ := hd; exact XS.lmul X hx rfl (hb hc h1) rfl kt) K
theorem Go.land {k : KT} (C : Ctx k l y bytes maxL ret R Z a0 EL wd wr h0 Q) {pc pc' : Nat} {x y' : Int64} (hd : De bytes pc (.land) 1 pc') (K : Go k h os cells slots pc' Ls (.long (x &&& y') :: st)) : Go k h os cells slots pc Ls (.long y' :: .long x :: st) :=
  Go.pure C (fun hx hc X kt => by obtain ⟨h1, rfl⟩ := hd; exact XS.land X hx rfl (hb hc h1) rfl kt) K
theorem Go.lor {k : KT} (C : Ctx k l y bytes maxL ret R Z a0 EL wd wr h0 Q) {pc pc' : Nat} {x y' : Int64} (hd : De bytes pc (.lor) 1 pc') (K : Go k h os cells slots pc' Ls (.long (x ||| y') :: st)) : Go k h os cells slots pc Ls (.long y' :: .long x :: st) :=
  Go.pure C (fun hx hc X kt => by obtain ⟨h1, rfl⟩ := hd; exact XS.lor X hx rfl (hb hc h1) rfl kt) K
theorem Go.lxor {k : KT} (C : Ctx k l y bytes maxL ret R Z a0 EL wd wr h0 Q) {pc pc' : Nat} {x y' : Int64} (hd : De bytes pc (.lxor) 1 pc') (K : Go k h os cells slots pc' Ls (.long (x ^^^ y') :: st)) : Go k h os cells slots pc Ls (.long y' :: .long x :: st) :=
  Go.pure C (fun hx hc X kt => by obtain ⟨h1, rfl⟩ := hd; exact XS.lxor X hx rfl (hb hc h1) rfl kt) K
theorem Go.lshl {k : KT} (C : Ctx k l y bytes maxL ret R Z a0 EL wd wr h0 Q) {pc pc' : Nat} {x : Int64} {y' : Int32} (hd : De bytes pc (.lshl) 1 pc') (K : Go k h os cells slots pc' Ls (.long (x <<< (y' &&& 0x3f).toInt64) :: st)) : Go k h os cells slots pc Ls (.int y' :: .long x :: st) :=
  Go.pure C (fun hx hc X kt => by obtain ⟨h1, rfl⟩ := hd; exact XS.lshl X hx rfl (hb hc h1) rfl kt) K
theorem Go.lshr {k : KT} (C : Ctx k l y bytes maxL ret R Z a0 EL wd wr h0 Q) {pc pc' : Nat} {x : Int64} {y' : Int32} (hd : De bytes pc (.lshr) 1 pc') (K : Go k h os cells slots pc' Ls (.long (x >>> (y' &&& 0x3f).toInt64) :: st)) : Go k h os cells slots pc Ls (.int y' :: .long x :: st) :=
  Go.pure C (fun hx hc X kt => by obtain ⟨h1, rfl⟩ := hd; exact XS.lshr X hx rfl (hb hc h1) rfl kt) K
theorem Go.lushr {k : KT} (C : Ctx k l y bytes maxL ret R Z a0 EL wd wr h0 Q) {pc pc' : Nat} {x : Int64} {y' : Int32} (hd : De bytes pc (.lushr) 1 pc') (K : Go k h os cells slots pc' Ls (.long ((x.toUInt64 >>> (y' &&& 0x3f).toInt64.toUInt64).toInt64) :: st)) : Go k h os cells slots pc Ls (.int y' :: .long x :: st) :=
  Go.pure C (fun hx hc X kt => by obtain ⟨h1, rfl⟩ := hd; exact XS.lushr X hx rfl (hb hc h1) rfl kt) K
theorem Go.idiv {k : KT} (C : Ctx k l y bytes maxL ret R Z a0 EL wd wr h0 Q) {pc pc' : Nat} {x y' : Int32} (hd : De bytes pc (.idiv) 1 pc') (hy : y' ≠ 0) (K : Go k h os cells slots pc' Ls (.int (x / y') :: st)) : Go k h os cells slots pc Ls (.int y' :: .int x :: st) :=
  Go.pure C (fun hx hc X kt => by obtain ⟨h1, rfl⟩ := hd; exact XS.idiv X hx rfl (hb hc h1) rfl hy kt) K
theorem Go.irem {k : KT} (C : Ctx k l y bytes maxL ret R Z a0 EL wd wr h0 Q) {pc pc' : Nat} {x y' : Int32} (hd : De bytes pc (.irem) 1 pc') (hy : y' ≠ 0) (K : Go k h os cells slots pc' Ls (.int (x % y') :: st)) : Go k h os cells slots pc Ls (.int y' :: .int x :: st) :=
  Go.pure C (fun hx hc X kt => by obtain ⟨h1, rfl⟩ := hd; exact XS.irem X hx rfl (hb hc h1) rfl hy (by rw [irem_eq_mod x y']; exact kt)) K
theorem Go.ldiv {k : KT} (C : Ctx k l y bytes maxL ret R Z a0 EL wd wr h0 Q) {pc pc' : Nat} {x y' : Int64} (hd : De bytes pc (.ldiv) 1 pc') (hy : y' ≠ 0) (K : Go k h os cells slots pc' Ls (.long (x / y') :: st)) : Go k h os cells slots pc Ls (.long y' :: .long x :: st) :=
  Go.pure C (fun hx hc X kt => by obtain ⟨h1, rfl⟩ := hd; exact XS.ldiv X hx rfl (hb hc h1) rfl hy kt) K
theorem Go.lcmp {k : KT} (C : Ctx k l y bytes maxL ret R Z a0 EL wd wr h0 Q) {pc pc' : Nat} {x y' : Int64} (hd : De bytes pc (.lcmp) 1 pc') (K : Go k h os cells slots pc' Ls (.int (lcmpW x y') :: st)) : Go k h os cells slots pc Ls (.long y' :: .long x :: st) :=
  Go.pure C (fun hx hc X kt => by obtain ⟨h1, rfl⟩ := hd; exact XS.lcmp X hx rfl (hb hc h1) rfl kt) K
theorem Go.ineg {k : KT} (C : Ctx k l y bytes maxL ret R Z a0 EL wd wr h0 Q) {pc pc' : Nat} {x : Int32} (hd : De bytes pc (.ineg) 1 pc') (K : Go k h os cells slots pc' Ls (.int (-x) :: st)) : Go k h os cells slots pc Ls (.int x :: st) :=
  Go.pure C (fun hx hc X kt => by obtain ⟨h1, rfl⟩ := hd; exact XS.ineg X hx rfl (hb hc h1) rfl kt) K
theorem Go.lneg {k : KT} (C : Ctx k l y bytes maxL ret R Z a0 EL wd wr h0 Q) {pc pc' : Nat} {x : Int64} (hd : De bytes pc (.lneg) 1 pc') (K : Go k h os cells slots pc' Ls (.long (-x) :: st)) : Go k h os cells slots pc Ls (.long x :: st) :=
  Go.pure C (fun hx hc X kt => by obtain ⟨h1, rfl⟩ := hd; exact XS.lneg X hx rfl (hb hc h1) rfl kt) K
theorem Go.i2l {k : KT} (C : Ctx k l y bytes maxL ret R Z a0 EL wd wr h0 Q) {pc pc' : Nat} {x : Int32} (hd : De bytes pc (.i2l) 1 pc') (K : Go k h os cells slots pc' Ls (.long (x.toInt64) :: st)) : Go k h os cells slots pc Ls (.int x :: st) :=
  Go.pure C (fun hx hc X kt => by obtain ⟨h1, rfl⟩ := hd; exact XS.i2l X hx rfl (hb hc h1) rfl kt) K
theorem Go.l2i {k : KT} (C : Ctx k l y bytes maxL ret R Z a0 EL wd wr h0 Q) {pc pc' : Nat} {x : Int64} (hd : De bytes pc (.l2i) 1 pc') (K : Go k h os cells slots pc' Ls (.int (x.toInt32) :: st)) : Go k h os cells slots pc Ls (.long x :: st) :=
  Go.pure C (fun hx hc X kt => by obtain ⟨h1, rfl⟩ := hd; exact XS.l2i X hx rfl (hb hc h1) rfl kt) K
theorem Go.i2b {k : KT} (C : Ctx k l y bytes maxL ret R Z a0 EL wd wr h0 Q) {pc pc' : Nat} {x : Int32} (hd : De bytes pc (.i2b) 1 pc') (K : Go k h os cells slots pc' Ls (.int (x.toInt8.toInt32) :: st)) : Go k h os cells slots pc Ls (.int x :: st) :=
  Go.pure C (fun hx hc X kt => by obtain ⟨h1, rfl⟩ := hd; exact XS.i2b X hx rfl (hb hc h1) rfl kt) K
theorem Go.i2s {k : KT} (C : Ctx k l y bytes maxL ret R Z a0 EL wd wr h0 Q) {pc pc' : Nat} {x : Int32} (hd : De bytes pc (.i2s) 1 pc') (K : Go k h os cells slots pc' Ls (.int (x.toInt16.toInt32) :: st)) : Go k h os cells slots pc Ls (.int x :: st) :=
  Go.pure C (fun hx hc X kt => by obtain ⟨h1, rfl⟩ := hd; exact XS.i2s X hx rfl (hb hc h1) rfl kt) K
theorem Go.i2c {k : KT} (C : Ctx k l y bytes maxL ret R Z a0 EL wd wr h0 Q) {pc pc' : Nat} {x : Int32} (hd : De bytes pc (.i2c) 1 pc') (K : Go k h os cells slots pc' Ls (.int (x.toUInt32.toUInt16.toUInt32.toInt32) :: st)) : Go k h os cells slots pc Ls (.int x :: st) :=
  Go.pure C (fun hx hc X kt => by obtain ⟨h1, rfl⟩ := hd; exact XS.i2c X hx rfl (hb hc h1) rfl kt) K
theorem Go.dup {k : KT} (C : Ctx k l y bytes maxL ret R Z a0 EL wd wr h0 Q) {pc pc' : Nat} {v : Value} (hd : De bytes pc (.dup) 1 pc') (hv : v.category = 1) (K : Go k h os cells slots pc' Ls (v :: v :: st)) : Go k h os cells slots pc Ls (v :: st) :=
  Go.pure C (fun hx hc X kt => by obtain ⟨h1, rfl⟩ := hd; exact XS.dup X hx rfl (hb hc h1) rfl hv kt) K
theorem Go.pop {k : KT} (C : Ctx k l y bytes maxL ret R Z a0 EL wd wr h0 Q) {pc pc' : Nat} {v : Value} (hd : De bytes pc (.pop) 1 pc') (hv : v.category = 1) (K : Go k h os cells slots pc' Ls (st)) : Go k h os cells slots pc Ls (v :: st) :=
  Go.pure C (fun hx hc X kt => by obtain ⟨h1, rfl⟩ := hd; exact XS.pop X hx rfl (hb hc h1) rfl hv kt) K
theorem Go.dupX1 {k : KT} (C : Ctx k l y bytes maxL ret R Z a0 EL wd wr h0 Q) {pc pc' : Nat} {v w : Value} (hd : De bytes pc (.dup_x1) 1 pc') (hv : v.category = 1) (hw : w.category = 1) (K : Go k h os cells slots pc' Ls (v :: w :: v :: st)) : Go k h os cells slots pc Ls (v :: w :: st) :=
  Go.pure C (fun hx hc X kt => by obtain ⟨h1, rfl⟩ := hd; exact XS.dupX1 X hx rfl (hb hc h1) rfl hv hw kt) K
theorem Go.swap {k : KT} (C : Ctx k l y bytes maxL ret R Z a0 EL wd wr h0 Q) {pc pc' : Nat} {v w : Value} (hd : De bytes pc (.swap) 1 pc') (hv : v.category = 1) (hw : w.category = 1) (K : Go k h os cells slots pc' Ls (w :: v :: st)) : Go k h os cells slots pc Ls (v :: w :: st) :=
  Go.pure C (fun hx hc X kt => by obtain ⟨h1, rfl⟩ := hd; exact XS.swap X hx rfl (hb hc h1) rfl hv hw kt) K
theorem Go.dup2 {k : KT} (C : Ctx k l y bytes maxL ret R Z a0 EL wd wr h0 Q) {pc pc' : Nat} {v w : Value} (hd : De bytes pc (.dup2) 1 pc') (hv : v.category = 1) (hw : w.category = 1) (K : Go k h os cells slots pc' Ls (v :: w :: v :: w :: st)) : Go k h os cells slots pc Ls (v :: w :: st) :=
  Go.pure C (fun hx hc X kt => by obtain ⟨h1, rfl⟩ := hd; exact XT.dup2 X hx rfl (hb hc h1) rfl hv hw kt) K
theorem Go.goto {k : KT} (C : Ctx k l y bytes maxL ret R Z a0 EL wd wr h0 Q) {pc pc' pcT : Nat} (hd : DeJ bytes pc .goto pc' pcT) (K : Go k h os cells slots pcT Ls st) : Go k h os cells slots pc Ls st :=
  Go.pure C (fun hx hc X kt => by obtain ⟨o, h1, -, h2, h3⟩ := hd; exact XS.goto X hx rfl rfl (hb hc h1) h2 h3 kt) K
theorem Go.ifeq {k : KT} (C : Ctx k l y bytes maxL ret R Z a0 EL wd wr h0 Q) {pc pc' pcT : Nat} {x : Int32} (hd : DeJ bytes pc (.ifCond .eq) pc' pcT) (KT : (x = 0) → Go k h os cells slots pcT Ls st) (KF : ¬ (x = 0) → Go k h os cells slots pc' Ls st) : Go k h os cells slots pc Ls (.int x :: st) := by
  obtain ⟨o, h1, rfl, h2, h3⟩ := hd
  by_cases q : (x = 0)
  · exact Go.pure C (fun hx hc X kt => XS.ifYes X hx rfl rfl (hb hc h1) rfl ((if0 _ _).trans (teq q).1) h2 h3 kt) (KT q)
  · exact Go.pure C (fun hx hc X kt => XS.ifNo X hx rfl (hb hc h1) rfl ((if0 _ _).trans (feq q).1) kt) (KF q)
theorem Go.icmpeq {k : KT} (C : Ctx k l y bytes maxL ret R Z a0 EL wd wr h0 Q) {pc pc' pcT : Nat} {x z : Int32} (hd : DeJ bytes pc (.if_icmp .eq) pc' pcT) (KT : (x = z) → Go k h os cells slots pcT Ls st) (KF : ¬ (x = z) → Go k h os cells slots pc' Ls st) : Go k h os cells slots pc Ls (.int z :: .int x :: st) := by
  obtain ⟨o, h1, rfl, h2, h3⟩ := hd
  by_cases q : (x = z)
  · exact Go.pure C (fun hx hc X kt => XS.icmpYes X hx rfl rfl (hb hc h1) rfl (teq q).1 h2 h3 kt) (KT q)
  · exact Go.pure C (fun hx hc X kt => XS.icmpNo X hx rfl (hb hc h1) rfl (feq q).1 kt) (KF q)
theorem Go.ifne {k : KT} (C : Ctx k l y bytes maxL ret R Z a0 EL wd wr h0 Q) {pc pc' pcT : Nat} {x : Int32} (hd : DeJ bytes pc (.ifCond .ne) pc' pcT) (KT : ¬ (x = 0) → Go k h os cells slots pcT Ls st) (KF : (x = 0) → Go k h os cells slots pc' Ls st) : Go k h os cells slots pc Ls (.int x :: st) := by
  obtain ⟨o, h1, rfl, h2, h3⟩ := hd
  by_cases q : ¬ (x = 0)
  · exact Go.pure C (fun hx hc X kt => XS.ifYes X hx rfl rfl (hb hc h1) rfl ((if0 _ _).trans (feq q).2) h2 h3 kt) (KT q)
  · have q := Decidable.not_not.mp q
    exact Go.pure C (fun hx hc X kt => XS.ifNo X hx rfl (hb hc h1) rfl ((if0 _ _).trans (teq q).2) kt) (KF q)
theorem Go.icmpne {k : KT} (C : Ctx k l y bytes maxL ret R Z a0 EL wd wr h0 Q) {pc pc' pcT : Nat} {x z : Int32} (hd : DeJ bytes pc (.if_icmp .ne) pc' pcT) (KT : ¬ (x = z) → Go k h os cells slots pcT Ls st) (KF : (x = z) → Go k h os cells slots pc' Ls st) : Go k h os cells slots pc Ls (.int z :: .int x :: st) := by
  obtain ⟨o, h1, rfl, h2, h3⟩ := hd
  by_cases q : ¬ (x = z)
  · exact Go.pure C (fun hx hc X kt => XS.icmpYes X hx rfl rfl (hb hc h1) rfl (feq q).2 h2 h3 kt) (KT q)
  · have q := Decidable.not_not.mp q
    exact Go.pure C (fun hx hc X kt => XS.icmpNo X hx rfl (hb hc h1) rfl (teq q).2 kt) (KF q)
theorem Go.iflt {k : KT} (C : Ctx k l y bytes maxL ret R Z a0 EL wd wr h0 Q) {pc pc' pcT : Nat} {x : Int32} (hd : DeJ bytes pc (.ifCond .lt) pc' pcT) (KT : (x < 0) → Go k h os cells slots pcT Ls st) (KF : ¬ (x < 0) → Go k h os cells slots pc' Ls st) : Go k h os cells slots pc Ls (.int x :: st) := by
  obtain ⟨o, h1, rfl, h2, h3⟩ := hd
  by_cases q : (x < 0)
  · exact Go.pure C (fun hx hc X kt => XS.ifYes X hx rfl rfl (hb hc h1) rfl ((if0 _ _).trans (tlt q).1) h2 h3 kt) (KT q)
  · exact Go.pure C (fun hx hc X kt => XS.ifNo X hx rfl (hb hc h1) rfl ((if0 _ _).trans (flt q).1) kt) (KF q)
theorem Go.icmplt {k : KT} (C : Ctx k l y bytes maxL ret R Z a0 EL wd wr h0 Q) {pc pc' pcT : Nat} {x z : Int32} (hd : DeJ bytes pc (.if_icmp .lt) pc' pcT) (KT : (x < z) → Go k h os cells slots pcT Ls st) (KF : ¬ (x < z) → Go k h os cells slots pc' Ls st) : Go k h os cells slots pc Ls (.int z :: .int x :: st) := by
  obtain ⟨o, h1, rfl, h2, h3⟩ := hd
  by_cases q : (x < z)
  · exact Go.pure C (fun hx hc X kt => XS.icmpYes X hx rfl rfl (hb hc h1) rfl (tlt q).1 h2 h3 kt) (KT q)
  · exact Go.pure C (fun hx hc X kt => XS.icmpNo X hx rfl (hb hc h1) rfl (flt q).1 kt) (KF q)
theorem Go.ifge {k : KT} (C : Ctx k l y bytes maxL ret R Z a0 EL wd wr h0 Q) {pc pc' pcT : Nat} {x : Int32} (hd : DeJ bytes pc (.ifCond .ge) pc' pcT) (KT : ¬ (x < 0) → Go k h os cells slots pcT Ls st) (KF : (x < 0) → Go k h os cells slots pc' Ls st) : Go k h os cells slots pc Ls (.int x :: st) := by
  obtain ⟨o, h1, rfl, h2, h3⟩ := hd
  by_cases q : ¬ (x < 0)
  · exact Go.pure C (fun hx hc X kt => XS.ifYes X hx rfl rfl (hb hc h1) rfl ((if0 _ _).trans (flt q).2.1) h2 h3 kt) (KT q)
  · have q := Decidable.not_not.mp q
    exact Go.pure C (fun hx hc X kt => XS.ifNo X hx rfl (hb hc h1) rfl ((if0 _ _).trans (tlt q).2.1) kt) (KF q)
theorem Go.icmpge {k : KT} (C : Ctx k l y bytes maxL ret R Z a0 EL wd wr h0 Q) {pc pc' pcT : Nat} {x z : Int32} (hd : DeJ bytes pc (.if_icmp .ge) pc' pcT) (KT : ¬ (x < z) → Go k h os cells slots pcT Ls st) (KF : (x < z) → Go k h os cells slots pc' Ls st) : Go k h os cells slots pc Ls (.int z :: .int x :: st) := by
  obtain ⟨o, h1, rfl, h2, h3⟩ := hd
  by_cases q : ¬ (x < z)
  · exact Go.pure C (fun hx hc X kt => XS.icmpYes X hx rfl rfl (hb hc h1) rfl (flt q).2.1 h2 h3 kt) (KT q)
  · have q := Decidable.not_not.mp q
    exact Go.pure C (fun hx hc X kt => XS.icmpNo X hx rfl (hb hc h1) rfl (tlt q).2.1 kt) (KF q)
theorem Go.ifgt {k : KT} (C : Ctx k l y bytes maxL ret R Z a0 EL wd wr h0 Q) {pc pc' pcT : Nat} {x : Int32} (hd : DeJ bytes pc (.ifCond .gt) pc' pcT) (KT : (0 < x) → Go k h os cells slots pcT Ls st) (KF : ¬ (0 < x) → Go k h os cells slots pc' Ls st) : Go k h os cells slots pc Ls (.int x :: st) := by
  obtain ⟨o, h1, rfl, h2, h3⟩ := hd
  by_cases q : (0 < x)
  · exact Go.pure C (fun hx hc X kt => XS.ifYes X hx rfl rfl (hb hc h1) rfl ((if0 _ _).trans (tlt q).2.2.1) h2 h3 kt) (KT q)
  · exact Go.pure C (fun hx hc X kt => XS.ifNo X hx rfl (hb hc h1) rfl ((if0 _ _).trans (flt q).2.2.1) kt) (KF q)
theorem Go.icmpgt {k : KT} (C : Ctx k l y bytes maxL ret R Z a0 EL wd wr h0 Q) {pc pc' pcT : Nat} {x z : Int32} (hd : DeJ bytes pc (.if_icmp .gt) pc' pcT) (KT : (z < x) → Go k h os cells slots pcT Ls st) (KF : ¬ (z < x) → Go k h os cells slots pc' Ls st) : Go k h os cells slots pc Ls (.int z :: .int x :: st) := by
  obtain ⟨o, h1, rfl, h2, h3⟩ := hd
  by_cases q : (z < x)
  · exact Go.pure C (fun hx hc X kt => XS.icmpYes X hx rfl rfl (hb hc h1) rfl (tlt q).2.2.1 h2 h3 kt) (KT q)
  · exact Go.pure C (fun hx hc X kt => XS.icmpNo X hx rfl (hb hc h1) rfl (flt q).2.2.1 kt) (KF q)
theorem Go.ifle {k : KT} (C : Ctx k l y bytes maxL ret R Z a0 EL wd wr h0 Q) {pc pc' pcT : Nat} {x : Int32} (hd : DeJ bytes pc (.ifCond .le) pc' pcT) (KT : ¬ (0 < x) → Go k h os cells slots pcT Ls st) (KF : (0 < x) → Go k h os cells slots pc' Ls st) : Go k h os cells slots pc Ls (.int x :: st) := by
  obtain ⟨o, h1, rfl, h2, h3⟩ := hd
  by_cases q : ¬ (0 < x)
  · exact Go.pure C (fun hx hc X kt => XS.ifYes X hx rfl rfl (hb hc h1) rfl ((if0 _ _).trans (flt q).2.2.2) h2 h3 kt) (KT q)
  · have q := Decidable.not_not.mp q
    exact Go.pure C (fun hx hc X kt => XS.ifNo X hx rfl (hb hc h1) rfl ((if0 _ _).trans (tlt q).2.2.2) kt) (KF q)
theorem Go.icmple {k : KT} (C : Ctx k l y bytes maxL ret R Z a0 EL wd wr h0 Q) {pc pc' pcT : Nat} {x z : Int32} (hd : DeJ bytes pc (.if_icmp .le) pc' pcT) (KT : ¬ (z < x) → Go k h os cells slots pcT Ls st) (KF : (z < x) → Go k h os cells slots pc' Ls st) : Go k h os cells slots pc Ls (.int z :: .int x :: st) := by
  obtain ⟨o, h1, rfl, h2, h3⟩ := hd
  by_cases q : ¬ (z < x)
  · exact Go.pure C (fun hx hc X kt => XS.icmpYes X hx rfl rfl (hb hc h1) rfl (flt q).2.2.2 h2 h3 kt) (KT q)
  · have q := Decidable.not_not.mp q
    exact Go.pure C (fun hx hc X kt => XS.icmpNo X hx rfl (hb hc h1) rfl (tlt q).2.2.2 kt) (KF q)
theorem Go.ifnullY {k : KT} (C : Ctx k l y bytes maxL ret R Z a0 EL wd wr h0 Q) {pc pc' pcT : Nat} (hd : DeJ bytes pc .ifnull pc' pcT) (K : Go k h os cells slots pcT Ls st) : Go k h os cells slots pc Ls (.null :: st) :=
  Go.pure C (fun hx hc X kt => by obtain ⟨o, h1, -, h2, h3⟩ := hd; exact XS.ifnullYes X hx rfl rfl (hb hc h1) rfl h2 h3 kt) K
theorem Go.ifnullN {k : KT} (C : Ctx k l y bytes maxL ret R Z a0 EL wd wr h0 Q) {pc pc' pcT : Nat} {b : Addr} (hd : DeJ bytes pc .ifnull pc' pcT) (K : Go k h os cells slots pc' Ls st) : Go k h os cells slots pc Ls (.ref b :: st) :=
  Go.pure C (fun hx hc X kt => by obtain ⟨o, h1, rfl, h2, h3⟩ := hd; exact XS.ifnullNo X hx rfl (hb hc h1) rfl kt) K
theorem Go.ifnonnullY {k : KT} (C : Ctx k l y bytes maxL ret R Z a0 EL wd wr h0 Q) {pc pc' pcT : Nat} {b : Addr} (hd : DeJ bytes pc .ifnonnull pc' pcT) (K : Go k h os cells slots pcT Ls st) : Go k h os cells slots pc Ls (.ref b :: st) :=
  Go.pure C (fun hx hc X kt => by obtain ⟨o, h1, -, h2, h3⟩ := hd; exact XS.ifnonnullYes X hx rfl rfl (hb hc h1) rfl h2 h3 kt) K
theorem Go.ifnonnullN {k : KT} (C : Ctx k l y bytes maxL ret R Z a0 EL wd wr h0 Q) {pc pc' pcT : Nat} (hd : DeJ bytes pc .ifnonnull pc' pcT) (K : Go k h os cells slots pc' Ls st) : Go k h os cells slots pc Ls (.null :: st) :=
  Go.pure C (fun hx hc X kt => by obtain ⟨o, h1, rfl, h2, h3⟩ := hd; exact XS.ifnonnullNo X hx rfl (hb hc h1) rfl kt) K
end Steps
section Heapy
variable {l : Launch} {y : MethodName} {bytes : ByteArray} {maxL : Nat} {ret : Option FieldType} {R : Room} {Z : State} {a0 : Array Value} {EL : List (String × Nat)} {wd : Bool} {wr : List Addr} {h0 : Heap} {Q : QT} {h : Heap} {os : List Addr} {cells slots : Nat} {Ls : Array Slot} {st : List Value}
/-- the run moves on: heap, tables and frame at hand -/
theorem mov {p : Program} {e : Env} {s : State} {m : MethodId} {args : Array Value} {below : List Frame} {meth : Method} {c : Code} {T T' : State} {locs' : List Loc} {vm' : Vm} {h' : Heap} {os' : List Addr} {cells' slots' pc pc' : Nat} {Ls' : Array Slot} {st' : List Value}
    (G : Go ⟨p, l, e, R, s, m, args, below, meth, c, Z, EL, wd, wr, Q⟩ h' os' cells' slots' pc' Ls' st') (X' : Stand p l e R (s.setVm vm') m args below meth c T' locs' cells' slots') (e' : T'.heap = h') (N' : Fr Z.heap.size locs') (S' : s.Since vm' h'.size) (w' : wd = false → s.WarmedH vm')
    (A' : CHr Z EL s.vm s.heap vm' h') (K' : Keep s.heap h' wr) (ow' : ∀ x ∈ os', Own Z s.heap EL wr vm' h' x)
    (stp : ∀ target, Steps p.tables e below (T'.setTop (mkF m pc' Ls' st')) target → Steps p.tables e below (T.setTop (mkF m pc Ls st)) target) : Fen p e below (Done Z EL wd R wr Q s) (T.setTop (mkF m pc Ls st)) :=
  Fen.of stp (G T' locs' vm' X' e' N' S' w' A' K' ow')
theorem ext0 {s : State} {h' : Heap} (E : Ext Z.heap s.heap) (K : Keep s.heap h' wr) (q : ∀ x ∈ wr, Z.heap.size ≤ x) : Ext Z.heap h' :=
  ⟨Nat.le_trans E.1 K.1, fun a c r => K.2.1 a c (E.2 a c r) fun hm => absurd (Array.getElem?_eq_some_iff.mp r).1 (Nat.not_lt.mpr (q a hm))⟩
theorem Go.old {k : KT} (C : Ctx k l y bytes maxL ret R Z a0 EL wd wr h0 Q) {pc : Nat} (K : Ext Z.heap h → Go k h os cells slots pc Ls st) : Go k h os cells slots pc Ls st := by
  obtain ⟨p, l', e, R', s, m, args, below, meth, c, Z', EL', wd', wr', Q'⟩ := k
  have C' := C
  obtain ⟨⟨rfl, rfl, rfl, rfl, rfl, rfl, rfl, rfl⟩, hx, hc, hml, hret, hlk, hnm, hZ, hown, hEL, hE, hwr⟩ := C
  intro T locs vm X e0 N S w A Kp ow
  exact K (ext0 hE Kp hwr) T locs vm X e0 N S w A Kp ow
theorem Go.kept {k : KT} (C : Ctx k l y bytes maxL ret R Z a0 EL wd wr h0 Q) {pc : Nat} (K : Keep h0 h wr → Go k h os cells slots pc Ls st) : Go k h os cells slots pc Ls st := by
  obtain ⟨p, l', e, R', s, m, args, below, meth, c, Z', EL', wd', wr', Q'⟩ := k
  obtain ⟨⟨rfl, rfl, rfl, rfl, rfl, rfl, rfl, rfl⟩, -⟩ := C
  intro T locs vm X e0 N S w A Kp ow
  exact K Kp T locs vm X e0 N S w A Kp ow
/-- fewer owned, more cells -/
theorem Go.less {k : KT} {pc : Nat} {os' : List Addr} (q : ∀ x ∈ os', x ∈ os) (G : Go k h os' cells slots pc Ls st) : Go k h os cells slots pc Ls st := by
  obtain ⟨p, l', e, R', s, m, args, below, meth, c, Z', EL', wd', wr', Q'⟩ := k
  intro T locs vm X e0 N S w A Kp ow
  exact G T locs vm X e0 N S w A Kp fun x hx => ow x (q x hx)
theorem Go.more {k : KT} {pc cells' slots' : Nat} (q1 : cells ≤ cells') (q2 : slots ≤ slots') (G : Go k h os cells' slots' pc Ls st) : Go k h os cells slots pc Ls st := by
  obtain ⟨p, l', e, R', s, m, args, below, meth, c, Z', EL', wd', wr', Q'⟩ := k
  intro T locs vm X e0 N S w A Kp ow
  exact G T locs vm (X.more q1 q2) e0 N S w A Kp ow
theorem ownPush {s : State} {vm : Vm} {h' : Heap} (E0 : Ext Z.heap s.heap) (A : CHr Z EL s.vm s.heap vm h) (Kp : Keep s.heap h wr) (E : Ext h h') (hlt : h.size < h'.size) (ow : ∀ x ∈ os, Own Z s.heap EL wr vm h x) : ∀ x ∈ h.size :: os, Own Z s.heap EL wr vm h' x := fun x hx => by
  rcases List.mem_cons.mp hx with rfl | hx
  · exact ⟨Safe.ext E A.1 (Safe.new (Nat.le_refl _)), Nat.le_trans E0.1 Kp.1, hlt, Or.inr Kp.1⟩
  · exact (ow x hx).chr (CHr.ext E A.1)
theorem Go.new {k : KT} (C : Ctx k l y bytes maxL ret R Z a0 EL wd wr h0 Q) {pc pc' i n : Nat} {Cn : String} {F : FL} {vs : List Value} (w1 : (Cond.classLink y.cls i Cn).before a0 Z = true) (w2 : (Cond.instantiable Cn n).before a0 Z = true) (w3 : (Cond.initialized Cn).before a0 Z = true)
    (LF : LaidL Z a0 Cn F) (dv : F.map (fun q => (parseFieldDescriptor q.2.2).map defaultValue) = vs.map some) (hd : De bytes pc (.new i) 3 pc') (hc : cells + 1 ≤ R.cells) (hl : slots + n ≤ R.slots)
    (K : ∀ (b : Addr) (h' : Heap), b = h.size → Keep h h' [] → Obj Z h' b Cn F vs → Go k h' (b :: os) (cells + 1) (slots + n) pc' Ls (.ref b :: st)) : Go k h os cells slots pc Ls st := by
  obtain ⟨p, l', e, R', s, m, args, below, meth, c, Z', EL', wd', wr', Q'⟩ := k
  obtain ⟨⟨rfl, rfl, rfl, rfl, rfl, rfl, rfl, rfl⟩, hx, hc', hml, hret, hlk, hnm, hZ, hown, hEL, hE, hwr⟩ := C
  obtain ⟨h1, rfl⟩ := hd
  intro T locs vm X e0 N S w A Kp ow
  have hZ' : Z'.Warmed39 (s.setVm vm).vm := State.Warmed39.trans (t := s) hZ S.1
  have hown' : (s.setVm vm).vm.findClass y.cls = some m.cls := (S.1.alike.findClass _ _).trans hown
  obtain ⟨T', h', X', e', E, Ex, D, -, stp⟩ := newO X hx hZ' hown' w1 w2 w3 e0 (g := mkF m pc Ls st) rfl (hb hc' h1) hc hl
  exact mov (K h.size h' rfl (Keep.ofExt E) (Obj.new (A := Ex) D LF dv)) X' e' N (Since.up S E.1) w (A.trans (CHr.ext E A.1)) (Kp.ext E) (ownPush hE A Kp E Ex.lt ow) stp
theorem Go.newarray {k : KT} (C : Ctx k l y bytes maxL ret R Z a0 EL wd wr h0 Q) {pc pc' : Nat} {aty : ArrayType} {z : Int32} (w1 : (Cond.arrayClass (newarray.typeOf aty)).before a0 Z = true) (hd : De bytes pc (.newarray aty) 2 pc') (hz : ¬ z < 0) (n : Nat) (hn : z.toNatClampNeg = n) {cap : Nat} (hcap : n ≤ cap) (hb8 : cap * 8 ≤ 536870912)
    (hc : cells + 1 ≤ R.cells) (hl : slots + cap ≤ R.slots)
    (K : ∀ (b : Addr) (h' : Heap), b = h.size → Keep h h' [] → Av Z h' b (newarray.typeOf aty) (List.replicate n (defaultValue (newarray.typeOf aty))) → Go k h' (b :: os) (cells + 1) (slots + cap) pc' Ls (.ref b :: st)) : Go k h os cells slots pc Ls (.int z :: st) := by
  obtain ⟨p, l', e, R', s, m, args, below, meth, c, Z', EL', wd', wr', Q'⟩ := k
  obtain ⟨⟨rfl, rfl, rfl, rfl, rfl, rfl, rfl, rfl⟩, hx, hc', hml, hret, hlk, hnm, hZ, hown, hEL, hE, hwr⟩ := C
  obtain ⟨h1, rfl⟩ := hd
  intro T locs vm X e0 N S w A Kp ow
  have hZ' : Z'.Warmed39 (s.setVm vm).vm := State.Warmed39.trans (t := s) hZ S.1
  obtain ⟨T', h', cA, X', e', E, Ar, stp⟩ := newP X hx hZ' w1 e0 (g := mkF m pc Ls (.int z :: st)) rfl (hb hc' h1) rfl hz (cap := cap) (by rw [hn]; exact hcap) hb8 hc hl
  exact mov (K h.size h' rfl (Keep.ofExt E) (Av.new Ar hz hn)) X' e' N (Since.up S E.1) w (A.trans (CHr.ext E A.1)) (Kp.ext E) (ownPush hE A Kp E Ar.lt ow) stp
theorem Go.getF {k : KT} (C : Ctx k l y bytes maxL ret R Z a0 EL wd wr h0 Q) {pc pc' i : Nat} {a : Addr} {Cn R0 host : String} {F : FL} {vs : List Value} {v : Value} {q : String × String × String} (O : Obj Z h a Cn F vs) (j : Nat) (hq : F[j]? = some q) (hv : vs[j]? = some v)
    (w : (Cond.fieldLink y.cls i R0 q.2.1 q.2.2).before a0 Z = true ∨ (Cond.fieldLinkNest y.cls i R0 q.2.1 q.2.2 host).before a0 Z = true) (via : Via Z R0 q.1 q.2.1 q.2.2) (hd : De bytes pc (.getfield i) 3 pc') (K : Go k h os cells slots pc' Ls (v :: st)) : Go k h os cells slots pc Ls (.ref a :: st) := by
  obtain ⟨p, l', e, R', s, m, args, below, meth, c, Z', EL', wd', wr', Q'⟩ := k
  obtain ⟨⟨rfl, rfl, rfl, rfl, rfl, rfl, rfl, rfl⟩, hx, hc', hml, hret, hlk, hnm, hZ, hown, hEL, hE, hwr⟩ := C
  obtain ⟨h1, rfl⟩ := hd
  intro T locs vm X e0 N S w' A Kp ow
  have hZ' : Z'.Warmed39 (s.setVm vm).vm := State.Warmed39.trans (t := s) hZ S.1
  have hown' : (s.setVm vm).vm.findClass y.cls = some m.cls := (S.1.alike.findClass _ _).trans hown
  obtain ⟨T', X', e', stp⟩ := RoadKit.getF X hx hZ' hown' w via e0 (O.2.2 j q v hq hv) (g := mkF m pc Ls (.ref a :: st)) rfl rfl (hb hc' h1)
  exact mov K X' e' N S w' A Kp ow stp
theorem Go.getS {k : KT} (C : Ctx k l y bytes maxL ret R Z a0 EL wd wr h0 Q) {pc pc' i : Nat} {R0 O n d host : String} {v : Value} (F : Sta Z Z.heap O n d v)
    (w : (Cond.fieldLink y.cls i R0 n d).before a0 Z = true ∨ (Cond.fieldLinkNest y.cls i R0 n d host).before a0 Z = true) (via : Via Z R0 O n d) (hd : De bytes pc (.getstatic i) 3 pc') (K : Go k h os cells slots pc' Ls (v :: st)) : Go k h os cells slots pc Ls st := by
  obtain ⟨p, l', e, R', s, m, args, below, meth, c, Z', EL', wd', wr', Q'⟩ := k
  obtain ⟨⟨rfl, rfl, rfl, rfl, rfl, rfl, rfl, rfl⟩, hx, hc', hml, hret, hlk, hnm, hZ, hown, hEL, hE, hwr⟩ := C
  obtain ⟨h1, rfl⟩ := hd
  intro T locs vm X e0 N S w' A Kp ow
  have hZ' : Z'.Warmed39 (s.setVm vm).vm := State.Warmed39.trans (t := s) hZ S.1
  have hown' : (s.setVm vm).vm.findClass y.cls = some m.cls := (S.1.alike.findClass _ _).trans hown
  obtain ⟨T', X', e', stp⟩ := getS2 X hx hZ' hown' w via e0 (F.ext (ext0 hE Kp hwr)) (g := mkF m pc Ls st) rfl (hb hc' h1)
  exact mov K X' e' N S w' A Kp ow stp
theorem Go.putF {k : KT} (C : Ctx k l y bytes maxL ret R Z a0 EL wd wr h0 Q) {pc pc' i kk : Nat} {a : Addr} {Cn R0 : String} {F : FL} {vs vs' : List Value} {v v' : Value} {ty : FieldType} {q : String × String × String} (O : Obj Z h a Cn F vs) (ho : a ∈ os) (j : Nat) (hq : F[j]? = some q)
    (w : (Cond.fieldLink y.cls i R0 q.2.1 q.2.2).before a0 Z = true) (via : Via Z R0 q.1 q.2.1 q.2.2) (Lw : (Cond.lays Cn q.1 q.2.1 q.2.2).before a0 Z = true ∨ ((Cond.laysFinal Cn q.1 q.2.1 q.2.2).before a0 Z = true ∧ y.cls = q.1 ∧ y.name = "<init>")) (wi : (Cond.instantiable Cn kk).before a0 Z = true)
    (LF : LaidL Z a0 Cn F) (nd : (F.map (fun q => q.2.1)).Nodup) (hty : parseFieldDescriptor q.2.2 = some ty) (hn : narrow ty v = v') (hf : fits ty v' = true) (hvs : vs.set j v' = vs') (hd : De bytes pc (.putfield i) 3 pc')
    (K : ∀ h' : Heap, Keep h h' [a] → Obj Z h' a Cn F vs' → Go k h' os cells slots pc' Ls st) : Go k h os cells slots pc Ls (v :: .ref a :: st) := by
  obtain ⟨p, l', e, R', s, m, args, below, meth, c, Z', EL', wd', wr', Q'⟩ := k
  obtain ⟨⟨rfl, rfl, rfl, rfl, rfl, rfl, rfl, rfl⟩, hx, hc', hml, hret, hlk, hnm, hZ, hown, hEL, hE, hwr⟩ := C
  obtain ⟨h1, rfl⟩ := hd
  intro T locs vm X e0 N S w' A Kp ow
  have hZ' : Z'.Warmed39 (s.setVm vm).vm := State.Warmed39.trans (t := s) hZ S.1
  have hown' : (s.setVm vm).vm.findClass y.cls = some m.cls := (S.1.alike.findClass _ _).trans hown
  have hj : j < vs.length := by rw [← O.2.1]; exact (List.getElem?_eq_some_iff.mp hq).1
  obtain ⟨T', h', X', e', W, stp⟩ := putFN X hx hZ' hown' w via e0 (O.2.2 j q _ hq (List.getElem?_eq_getElem hj)) O.1 (Lw.imp id fun z => ⟨z.1, z.2.1, hnm.trans z.2.2⟩) wi hty hn hf (g := mkF m pc Ls (v :: .ref a :: st)) rfl rfl (hb hc' h1)
  have KW := Keep.of_wr W
  have os1 : ∀ x ∈ [a], x ∈ os := fun x hx => by cases List.mem_singleton.mp hx; exact ho
  have Ch := CHr.keep KW (safeOs ow os1) A.1
  subst hvs
  exact mov (K h' KW (O.put W hq LF nd)) X' e' (Fr.snoc X' N (ow a ho).2.1) (Since.up S KW.1) w' (A.trans Ch) (keepOs Kp KW ow os1) (fun x hx => (ow x hx).chr Ch) stp
theorem av_in {a : Addr} {ty : FieldType} {vs : List Value} {c : Cell} {z j : Int32} {i : Nat} (r2 : c.slots.size = z.toNatClampNeg) (e : z.toNatClampNeg = vs.length) (hj : ¬ j < 0) (hi : j.toNatClampNeg = i) (hlt : i < vs.length) : ¬ (j < 0 ∨ c.slots.size ≤ j.toNatClampNeg) := by
  rintro (q | q)
  · exact hj q
  · rw [r2, e, hi] at q; omega
theorem has_at {c : Cell} {vs : List Value} {d : Value} (H : Has c vs d) {i : Nat} {v : Value} (hi : i < c.slots.size) (hv : vs[i]? = some v) : c.slots[i]? = some v := by
  rw [H i hi, List.getD_eq_getElem?_getD, hv]; rfl
theorem Go.arraylength {k : KT} (C : Ctx k l y bytes maxL ret R Z a0 EL wd wr h0 Q) {pc pc' : Nat} {a : Addr} {ty : FieldType} {vs : List Value} (V : Av Z h a ty vs) (v : Int32) (hv : vs.length.toInt32 = v) (hd : De bytes pc .arraylength 1 pc') (K : Go k h os cells slots pc' Ls (.int v :: st)) : Go k h os cells slots pc Ls (.ref a :: st) := by
  obtain ⟨p, l', e, R', s, m, args, below, meth, c, Z', EL', wd', wr', Q'⟩ := k
  obtain ⟨⟨rfl, rfl, rfl, rfl, rfl, rfl, rfl, rfl⟩, hx, hc', hml, hret, hlk, hnm, hZ, hown, hEL, hE, hwr⟩ := C
  obtain ⟨h1, rfl⟩ := hd
  intro T locs vm X e0 N S w' A Kp ow
  have hZ' : Z'.Warmed39 (s.setVm vm).vm := State.Warmed39.trans (t := s) hZ S.1
  obtain ⟨kc, z, ⟨cl, Ar, r1, r2, r3, H, G⟩, ez⟩ := V
  refine Fen.of (fun t kt => X.arraylength hx (by rw [e0]; exact Ar.1) (State.isArrayOf_alike hZ'.alike Ar.2.1) (g := mkF m pc Ls (.ref a :: st)) rfl rfl (hb hc' h1) t ?_) (K T locs vm X e0 N S w' A Kp ow)
  rw [r2, ez, hv]; exact kt
theorem Go.iaload {k : KT} (C : Ctx k l y bytes maxL ret R Z a0 EL wd wr h0 Q) {pc pc' : Nat} {a : Addr} {vs : List Value} {j : Int32} {v : Value} (V : Av Z h a .int vs) (i : Nat) (hj : ¬ j < 0) (hi : j.toNatClampNeg = i) (hv : vs[i]? = some v) (hd : De bytes pc .iaload 1 pc') (K : Go k h os cells slots pc' Ls (v :: st)) : Go k h os cells slots pc Ls (.int j :: .ref a :: st) := by
  obtain ⟨p, l', e, R', s, m, args, below, meth, c, Z', EL', wd', wr', Q'⟩ := k
  obtain ⟨⟨rfl, rfl, rfl, rfl, rfl, rfl, rfl, rfl⟩, hx, hc', hml, hret, hlk, hnm, hZ, hown, hEL, hE, hwr⟩ := C
  obtain ⟨h1, rfl⟩ := hd
  intro T locs vm X e0 N S w' A Kp ow
  have hZ' : Z'.Warmed39 (s.setVm vm).vm := State.Warmed39.trans (t := s) hZ S.1
  obtain ⟨kc, z, ⟨cl, Ar, r1, r2, r3, H, G⟩, ez⟩ := V
  have hlt := (List.getElem?_eq_some_iff.mp hv).1
  refine Fen.of (fun t kt => X.iaload hx (j := j) (v := v) (by rw [e0]; exact Ar.1) (State.isArrayOf_alike hZ'.alike Ar.2.1) Ar.2.2 (av_in (a := a) (ty := .int) (vs := vs) r2 ez hj hi hlt) (by rw [hi]; exact has_at H (by rw [r2, ez]; exact hlt) hv) (g := mkF m pc Ls (.int j :: .ref a :: st)) rfl rfl (hb hc' h1) t kt) (K T locs vm X e0 N S w' A Kp ow)
theorem Go.laload {k : KT} (C : Ctx k l y bytes maxL ret R Z a0 EL wd wr h0 Q) {pc pc' : Nat} {a : Addr} {vs : List Value} {j : Int32} {v : Value} (V : Av Z h a .long vs) (i : Nat) (hj : ¬ j < 0) (hi : j.toNatClampNeg = i) (hv : vs[i]? = some v) (hd : De bytes pc .laload 1 pc') (K : Go k h os cells slots pc' Ls (v :: st)) : Go k h os cells slots pc Ls (.int j :: .ref a :: st) := by
  obtain ⟨p, l', e, R', s, m, args, below, meth, c, Z', EL', wd', wr', Q'⟩ := k
  obtain ⟨⟨rfl, rfl, rfl, rfl, rfl, rfl, rfl, rfl⟩, hx, hc', hml, hret, hlk, hnm, hZ, hown, hEL, hE, hwr⟩ := C
  obtain ⟨h1, rfl⟩ := hd
  intro T locs vm X e0 N S w' A Kp ow
  have hZ' : Z'.Warmed39 (s.setVm vm).vm := State.Warmed39.trans (t := s) hZ S.1
  obtain ⟨kc, z, ⟨cl, Ar, r1, r2, r3, H, G⟩, ez⟩ := V
  have hlt := (List.getElem?_eq_some_iff.mp hv).1
  refine Fen.of (fun t kt => X.laload hx (j := j) (v := v) (by rw [e0]; exact Ar.1) (State.isArrayOf_alike hZ'.alike Ar.2.1) Ar.2.2 (av_in (a := a) (ty := .long) (vs := vs) r2 ez hj hi hlt) (by rw [hi]; exact has_at H (by rw [r2, ez]; exact hlt) hv) (g := mkF m pc Ls (.int j :: .ref a :: st)) rfl rfl (hb hc' h1) t kt) (K T locs vm X e0 N S w' A Kp ow)
theorem Go.caload {k : KT} (C : Ctx k l y bytes maxL ret R Z a0 EL wd wr h0 Q) {pc pc' : Nat} {a : Addr} {vs : List Value} {j : Int32} {v : Value} (V : Av Z h a .char vs) (i : Nat) (hj : ¬ j < 0) (hi : j.toNatClampNeg = i) (hv : vs[i]? = some v) (hd : De bytes pc .caload 1 pc') (K : Go k h os cells slots pc' Ls (v :: st)) : Go k h os cells slots pc Ls (.int j :: .ref a :: st) := by
  obtain ⟨p, l', e, R', s, m, args, below, meth, c, Z', EL', wd', wr', Q'⟩ := k
  obtain ⟨⟨rfl, rfl, rfl, rfl, rfl, rfl, rfl, rfl⟩, hx, hc', hml, hret, hlk, hnm, hZ, hown, hEL, hE, hwr⟩ := C
  obtain ⟨h1, rfl⟩ := hd
  intro T locs vm X e0 N S w' A Kp ow
  have hZ' : Z'.Warmed39 (s.setVm vm).vm := State.Warmed39.trans (t := s) hZ S.1
  obtain ⟨kc, z, ⟨cl, Ar, r1, r2, r3, H, G⟩, ez⟩ := V
  have hlt := (List.getElem?_eq_some_iff.mp hv).1
  refine Fen.of (fun t kt => X.caload hx (j := j) (v := v) (by rw [e0]; exact Ar.1) (State.isArrayOf_alike hZ'.alike Ar.2.1) Ar.2.2 (av_in (a := a) (ty := .char) (vs := vs) r2 ez hj hi hlt) (by rw [hi]; exact has_at H (by rw [r2, ez]; exact hlt) hv) (g := mkF m pc Ls (.int j :: .ref a :: st)) rfl rfl (hb hc' h1) t kt) (K T locs vm X e0 N S w' A Kp ow)
theorem Go.saload {k : KT} (C : Ctx k l y bytes maxL ret R Z a0 EL wd wr h0 Q) {pc pc' : Nat} {a : Addr} {vs : List Value} {j : Int32} {v : Value} (V : Av Z h a .short vs) (i : Nat) (hj : ¬ j < 0) (hi : j.toNatClampNeg = i) (hv : vs[i]? = some v) (hd : De bytes pc .saload 1 pc') (K : Go k h os cells slots pc' Ls (v :: st)) : Go k h os cells slots pc Ls (.int j :: .ref a :: st) := by
  obtain ⟨p, l', e, R', s, m, args, below, meth, c, Z', EL', wd', wr', Q'⟩ := k
  obtain ⟨⟨rfl, rfl, rfl, rfl, rfl, rfl, rfl, rfl⟩, hx, hc', hml, hret, hlk, hnm, hZ, hown, hEL, hE, hwr⟩ := C
  obtain ⟨h1, rfl⟩ := hd
  intro T locs vm X e0 N S w' A Kp ow
  have hZ' : Z'.Warmed39 (s.setVm vm).vm := State.Warmed39.trans (t := s) hZ S.1
  obtain ⟨kc, z, ⟨cl, Ar, r1, r2, r3, H, G⟩, ez⟩ := V
  have hlt := (List.getElem?_eq_some_iff.mp hv).1
  refine Fen.of (fun t kt => X.saload hx (j := j) (v := v) (by rw [e0]; exact Ar.1) (State.isArrayOf_alike hZ'.alike Ar.2.1) Ar.2.2 (av_in (a := a) (ty := .short) (vs := vs) r2 ez hj hi hlt) (by rw [hi]; exact has_at H (by rw [r2, ez]; exact hlt) hv) (g := mkF m pc Ls (.int j :: .ref a :: st)) rfl rfl (hb hc' h1) t kt) (K T locs vm X e0 N S w' A Kp ow)
theorem Go.baload {k : KT} (C : Ctx k l y bytes maxL ret R Z a0 EL wd wr h0 Q) {pc pc' : Nat} {a : Addr} {vs : List Value} {j : Int32} {v : Value} (V : Av Z h a .byte vs) (i : Nat) (hj : ¬ j < 0) (hi : j.toNatClampNeg = i) (hv : vs[i]? = some v) (hd : De bytes pc .baload 1 pc') (K : Go k h os cells slots pc' Ls (v :: st)) : Go k h os cells slots pc Ls (.int j :: .ref a :: st) := by
  obtain ⟨p, l', e, R', s, m, args, below, meth, c, Z', EL', wd', wr', Q'⟩ := k
  obtain ⟨⟨rfl, rfl, rfl, rfl, rfl, rfl, rfl, rfl⟩, hx, hc', hml, hret, hlk, hnm, hZ, hown, hEL, hE, hwr⟩ := C
  obtain ⟨h1, rfl⟩ := hd
  intro T locs vm X e0 N S w' A Kp ow
  have hZ' : Z'.Warmed39 (s.setVm vm).vm := State.Warmed39.trans (t := s) hZ S.1
  obtain ⟨kc, z, ⟨cl, Ar, r1, r2, r3, H, G⟩, ez⟩ := V
  have hlt := (List.getElem?_eq_some_iff.mp hv).1
  refine Fen.of (fun t kt => X.baloadBytes hx (j := j) (v := v) (by rw [e0]; exact Ar.1) (State.isArrayOf_alike hZ'.alike Ar.2.1) Ar.2.2 (av_in (a := a) (ty := .byte) (vs := vs) r2 ez hj hi hlt) (by rw [hi]; exact has_at H (by rw [r2, ez]; exact hlt) hv) (g := mkF m pc Ls (.int j :: .ref a :: st)) rfl rfl (hb hc' h1) t kt) (K T locs vm X e0 N S w' A Kp ow)
theorem Go.aaload {k : KT} (C : Ctx k l y bytes maxL ret R Z a0 EL wd wr h0 Q) {pc pc' : Nat} {a : Addr} {vs : List Value} {j : Int32} {v : Value} {ty : FieldType} (hty : ty.isReference = true) (V : Av Z h a ty vs) (i : Nat) (hj : ¬ j < 0) (hi : j.toNatClampNeg = i) (hv : vs[i]? = some v) (hd : De bytes pc .aaload 1 pc') (K : Go k h os cells slots pc' Ls (v :: st)) : Go k h os cells slots pc Ls (.int j :: .ref a :: st) := by
  obtain ⟨p, l', e, R', s, m, args, below, meth, c, Z', EL', wd', wr', Q'⟩ := k
  obtain ⟨⟨rfl, rfl, rfl, rfl, rfl, rfl, rfl, rfl⟩, hx, hc', hml, hret, hlk, hnm, hZ, hown, hEL, hE, hwr⟩ := C
  obtain ⟨h1, rfl⟩ := hd
  intro T locs vm X e0 N S w' A Kp ow
  have hZ' : Z'.Warmed39 (s.setVm vm).vm := State.Warmed39.trans (t := s) hZ S.1
  obtain ⟨kc, z, ⟨cl, Ar, r1, r2, r3, H, G⟩, ez⟩ := V
  have hlt := (List.getElem?_eq_some_iff.mp hv).1
  refine Fen.of (fun t kt => X.aaload hx (j := j) (v := v) (by rw [e0]; exact Ar.1) (State.isArrayOf_alike hZ'.alike Ar.2.1) hty Ar.2.2 (av_in (a := a) (ty := ty) (vs := vs) r2 ez hj hi hlt) (by rw [hi]; exact has_at H (by rw [r2, ez]; exact hlt) hv) (g := mkF m pc Ls (.int j :: .ref a :: st)) rfl rfl (hb hc' h1) t kt) (K T locs vm X e0 N S w' A Kp ow)
theorem Go.iastore {k : KT} (C : Ctx k l y bytes maxL ret R Z a0 EL wd wr h0 Q) {pc pc' : Nat} {a : Addr} {vs vs' : List Value} {j : Int32} {x : Int32} (V : Av Z h a .int vs) (ho : a ∈ os) (i : Nat) (hj : ¬ j < 0) (hi : j.toNatClampNeg = i) (hlt : i < vs.length) (hvs : vs.set i (.int x) = vs') (hd : De bytes pc .iastore 1 pc')
    (K : ∀ h' : Heap, Keep h h' [a] → Av Z h' a .int vs' → Go k h' os cells slots pc' Ls st) : Go k h os cells slots pc Ls (.int x :: .int j :: .ref a :: st) := by
  obtain ⟨p, l', e, R', s, m, args, below, meth, c, Z', EL', wd', wr', Q'⟩ := k
  obtain ⟨⟨rfl, rfl, rfl, rfl, rfl, rfl, rfl, rfl⟩, hx, hc', hml, hret, hlk, hnm, hZ, hown, hEL, hE, hwr⟩ := C
  obtain ⟨h1, rfl⟩ := hd
  intro T locs vm X e0 N S w' A Kp ow
  have hZ' : Z'.Warmed39 (s.setVm vm).vm := State.Warmed39.trans (t := s) hZ S.1
  obtain ⟨kc, z, ⟨cl, Ar, r1, r2, r3, H, G⟩, ez⟩ := V
  obtain ⟨T', h', X', e', W, stp⟩ := stI X hx hZ' e0 Ar (j := j) (av_in (a := a) (ty := .int) (vs := vs) r2 ez hj hi hlt) (g := mkF m pc Ls (.int x :: .int j :: .ref a :: st)) rfl rfl (hb hc' h1)
  have KW := Keep.of_wr W
  have os1 : ∀ x ∈ [a], x ∈ os := fun x hx => by cases List.mem_singleton.mp hx; exact ho
  have Ch := CHr.keep KW (safeOs ow os1) A.1
  subst hvs
  exact mov (K h' KW ⟨kc, z, Arv.set Ar r1 r2 r3 H G rfl W i hi hlt, by simpa using ez⟩) X' e' (Fr.snoc X' N (ow a ho).2.1) (Since.up S KW.1) w' (A.trans Ch) (keepOs Kp KW ow os1) (fun x hx => (ow x hx).chr Ch) stp
theorem Go.lastore {k : KT} (C : Ctx k l y bytes maxL ret R Z a0 EL wd wr h0 Q) {pc pc' : Nat} {a : Addr} {vs vs' : List Value} {j : Int32} {x : Int64} (V : Av Z h a .long vs) (ho : a ∈ os) (i : Nat) (hj : ¬ j < 0) (hi : j.toNatClampNeg = i) (hlt : i < vs.length) (hvs : vs.set i (.long x) = vs') (hd : De bytes pc .lastore 1 pc')
    (K : ∀ h' : Heap, Keep h h' [a] → Av Z h' a .long vs' → Go k h' os cells slots pc' Ls st) : Go k h os cells slots pc Ls (.long x :: .int j :: .ref a :: st) := by
  obtain ⟨p, l', e, R', s, m, args, below, meth, c, Z', EL', wd', wr', Q'⟩ := k
  obtain ⟨⟨rfl, rfl, rfl, rfl, rfl, rfl, rfl, rfl⟩, hx, hc', hml, hret, hlk, hnm, hZ, hown, hEL, hE, hwr⟩ := C
  obtain ⟨h1, rfl⟩ := hd
  intro T locs vm X e0 N S w' A Kp ow
  have hZ' : Z'.Warmed39 (s.setVm vm).vm := State.Warmed39.trans (t := s) hZ S.1
  obtain ⟨kc, z, ⟨cl, Ar, r1, r2, r3, H, G⟩, ez⟩ := V
  obtain ⟨T', h', X', e', W, stp⟩ := stJ X hx hZ' e0 Ar (j := j) (av_in (a := a) (ty := .long) (vs := vs) r2 ez hj hi hlt) (g := mkF m pc Ls (.long x :: .int j :: .ref a :: st)) rfl rfl (hb hc' h1)
  have KW := Keep.of_wr W
  have os1 : ∀ x ∈ [a], x ∈ os := fun x hx => by cases List.mem_singleton.mp hx; exact ho
  have Ch := CHr.keep KW (safeOs ow os1) A.1
  subst hvs
  exact mov (K h' KW ⟨kc, z, Arv.set Ar r1 r2 r3 H G rfl W i hi hlt, by simpa using ez⟩) X' e' (Fr.snoc X' N (ow a ho).2.1) (Since.up S KW.1) w' (A.trans Ch) (keepOs Kp KW ow os1) (fun x hx => (ow x hx).chr Ch) stp
theorem Go.castore {k : KT} (C : Ctx k l y bytes maxL ret R Z a0 EL wd wr h0 Q) {pc pc' : Nat} {a : Addr} {vs vs' : List Value} {j : Int32} {x x' : Int32} (V : Av Z h a .char vs) (ho : a ∈ os) (i : Nat) (hj : ¬ j < 0) (hi : j.toNatClampNeg = i) (hlt : i < vs.length) (hn : nar .char x = x') (hvs : vs.set i (.int x') = vs') (hd : De bytes pc .castore 1 pc')
    (K : ∀ h' : Heap, Keep h h' [a] → Av Z h' a .char vs' → Go k h' os cells slots pc' Ls st) : Go k h os cells slots pc Ls (.int x :: .int j :: .ref a :: st) := by
  obtain ⟨p, l', e, R', s, m, args, below, meth, c, Z', EL', wd', wr', Q'⟩ := k
  obtain ⟨⟨rfl, rfl, rfl, rfl, rfl, rfl, rfl, rfl⟩, hx, hc', hml, hret, hlk, hnm, hZ, hown, hEL, hE, hwr⟩ := C
  obtain ⟨h1, rfl⟩ := hd
  intro T locs vm X e0 N S w' A Kp ow
  have hZ' : Z'.Warmed39 (s.setVm vm).vm := State.Warmed39.trans (t := s) hZ S.1
  obtain ⟨kc, z, ⟨cl, Ar, r1, r2, r3, H, G⟩, ez⟩ := V
  obtain ⟨T', h', X', e', W, stp⟩ := stC X hx hZ' e0 Ar (j := j) (av_in (a := a) (ty := .char) (vs := vs) r2 ez hj hi hlt) (g := mkF m pc Ls (.int x :: .int j :: .ref a :: st)) rfl rfl (hb hc' h1)
  have KW := Keep.of_wr W
  have os1 : ∀ x ∈ [a], x ∈ os := fun x hx => by cases List.mem_singleton.mp hx; exact ho
  have Ch := CHr.keep KW (safeOs ow os1) A.1
  subst hn
  subst hvs
  exact mov (K h' KW ⟨kc, z, Arv.set Ar r1 r2 r3 H G (fits_nar_char x) W i hi hlt, by simpa using ez⟩) X' e' (Fr.snoc X' N (ow a ho).2.1) (Since.up S KW.1) w' (A.trans Ch) (keepOs Kp KW ow os1) (fun x hx => (ow x hx).chr Ch) stp
theorem Go.sastore {k : KT} (C : Ctx k l y bytes maxL ret R Z a0 EL wd wr h0 Q) {pc pc' : Nat} {a : Addr} {vs vs' : List Value} {j : Int32} {x x' : Int32} (V : Av Z h a .short vs) (ho : a ∈ os) (i : Nat) (hj : ¬ j < 0) (hi : j.toNatClampNeg = i) (hlt : i < vs.length) (hn : nar .short x = x') (hvs : vs.set i (.int x') = vs') (hd : De bytes pc .sastore 1 pc')
    (K : ∀ h' : Heap, Keep h h' [a] → Av Z h' a .short vs' → Go k h' os cells slots pc' Ls st) : Go k h os cells slots pc Ls (.int x :: .int j :: .ref a :: st) := by
  obtain ⟨p, l', e, R', s, m, args, below, meth, c, Z', EL', wd', wr', Q'⟩ := k
  obtain ⟨⟨rfl, rfl, rfl, rfl, rfl, rfl, rfl, rfl⟩, hx, hc', hml, hret, hlk, hnm, hZ, hown, hEL, hE, hwr⟩ := C
  obtain ⟨h1, rfl⟩ := hd
  intro T locs vm X e0 N S w' A Kp ow
  have hZ' : Z'.Warmed39 (s.setVm vm).vm := State.Warmed39.trans (t := s) hZ S.1
  obtain ⟨kc, z, ⟨cl, Ar, r1, r2, r3, H, G⟩, ez⟩ := V
  obtain ⟨T', h', X', e', W, stp⟩ := stS X hx hZ' e0 Ar (j := j) (av_in (a := a) (ty := .short) (vs := vs) r2 ez hj hi hlt) (g := mkF m pc Ls (.int x :: .int j :: .ref a :: st)) rfl rfl (hb hc' h1)
  have KW := Keep.of_wr W
  have os1 : ∀ x ∈ [a], x ∈ os := fun x hx => by cases List.mem_singleton.mp hx; exact ho
  have Ch := CHr.keep KW (safeOs ow os1) A.1
  subst hn
  subst hvs
  exact mov (K h' KW ⟨kc, z, Arv.set Ar r1 r2 r3 H G (fits_nar_short x) W i hi hlt, by simpa using ez⟩) X' e' (Fr.snoc X' N (ow a ho).2.1) (Since.up S KW.1) w' (A.trans Ch) (keepOs Kp KW ow os1) (fun x hx => (ow x hx).chr Ch) stp
theorem Go.bastore {k : KT} (C : Ctx k l y bytes maxL ret R Z a0 EL wd wr h0 Q) {pc pc' : Nat} {a : Addr} {vs vs' : List Value} {j : Int32} {x x' : Int32} (V : Av Z h a .byte vs) (ho : a ∈ os) (i : Nat) (hj : ¬ j < 0) (hi : j.toNatClampNeg = i) (hlt : i < vs.length) (hn : nar .byte x = x') (hvs : vs.set i (.int x') = vs') (hd : De bytes pc .bastore 1 pc')
    (K : ∀ h' : Heap, Keep h h' [a] → Av Z h' a .byte vs' → Go k h' os cells slots pc' Ls st) : Go k h os cells slots pc Ls (.int x :: .int j :: .ref a :: st) := by
  obtain ⟨p, l', e, R', s, m, args, below, meth, c, Z', EL', wd', wr', Q'⟩ := k
  obtain ⟨⟨rfl, rfl, rfl, rfl, rfl, rfl, rfl, rfl⟩, hx, hc', hml, hret, hlk, hnm, hZ, hown, hEL, hE, hwr⟩ := C
  obtain ⟨h1, rfl⟩ := hd
  intro T locs vm X e0 N S w' A Kp ow
  have hZ' : Z'.Warmed39 (s.setVm vm).vm := State.Warmed39.trans (t := s) hZ S.1
  obtain ⟨kc, z, ⟨cl, Ar, r1, r2, r3, H, G⟩, ez⟩ := V
  obtain ⟨T', h', X', e', W, stp⟩ := stB X hx hZ' e0 Ar (j := j) (av_in (a := a) (ty := .byte) (vs := vs) r2 ez hj hi hlt) (g := mkF m pc Ls (.int x :: .int j :: .ref a :: st)) rfl rfl (hb hc' h1)
  have KW := Keep.of_wr W
  have os1 : ∀ x ∈ [a], x ∈ os := fun x hx => by cases List.mem_singleton.mp hx; exact ho
  have Ch := CHr.keep KW (safeOs ow os1) A.1
  subst hn
  subst hvs
  exact mov (K h' KW ⟨kc, z, Arv.set Ar r1 r2 r3 H G (fits_nar_byte x) W i hi hlt, by simpa using ez⟩) X' e' (Fr.snoc X' N (ow a ho).2.1) (Since.up S KW.1) w' (A.trans Ch) (keepOs Kp KW ow os1) (fun x hx => (ow x hx).chr Ch) stp
theorem Go.zastore {k : KT} (C : Ctx k l y bytes maxL ret R Z a0 EL wd wr h0 Q) {pc pc' : Nat} {a : Addr} {vs vs' : List Value} {j : Int32} {x x' : Int32} (V : Av Z h a .boolean vs) (ho : a ∈ os) (i : Nat) (hj : ¬ j < 0) (hi : j.toNatClampNeg = i) (hlt : i < vs.length) (hn : nar .boolean x = x') (hvs : vs.set i (.int x') = vs') (hd : De bytes pc .bastore 1 pc')
    (K : ∀ h' : Heap, Keep h h' [a] → Av Z h' a .boolean vs' → Go k h' os cells slots pc' Ls st) : Go k h os cells slots pc Ls (.int x :: .int j :: .ref a :: st) := by
  obtain ⟨p, l', e, R', s, m, args, below, meth, c, Z', EL', wd', wr', Q'⟩ := k
  obtain ⟨⟨rfl, rfl, rfl, rfl, rfl, rfl, rfl, rfl⟩, hx, hc', hml, hret, hlk, hnm, hZ, hown, hEL, hE, hwr⟩ := C
  obtain ⟨h1, rfl⟩ := hd
  intro T locs vm X e0 N S w' A Kp ow
  have hZ' : Z'.Warmed39 (s.setVm vm).vm := State.Warmed39.trans (t := s) hZ S.1
  obtain ⟨kc, z, ⟨cl, Ar, r1, r2, r3, H, G⟩, ez⟩ := V
  obtain ⟨T', h', X', e', W, stp⟩ := stZ X hx hZ' e0 Ar (j := j) (av_in (a := a) (ty := .boolean) (vs := vs) r2 ez hj hi hlt) (g := mkF m pc Ls (.int x :: .int j :: .ref a :: st)) rfl rfl (hb hc' h1)
  have KW := Keep.of_wr W
  have os1 : ∀ x ∈ [a], x ∈ os := fun x hx => by cases List.mem_singleton.mp hx; exact ho
  have Ch := CHr.keep KW (safeOs ow os1) A.1
  subst hn
  subst hvs
  exact mov (K h' KW ⟨kc, z, Arv.set Ar r1 r2 r3 H G (fits_nar_bool x) W i hi hlt, by simpa using ez⟩) X' e' (Fr.snoc X' N (ow a ho).2.1) (Since.up S KW.1) w' (A.trans Ch) (keepOs Kp KW ow os1) (fun x hx => (ow x hx).chr Ch) stp
theorem Go.anewarray {k : KT} (C : Ctx k l y bytes maxL ret R Z a0 EL wd wr h0 Q) {pc pc' i : Nat} {Cn : String} {z : Int32} (w1 : (Cond.classLink y.cls i Cn).before a0 Z = true) (w2 : (Cond.arrayOver (.object Cn)).before a0 Z = true) (hd : De bytes pc (.anewarray i) 3 pc') (hz : ¬ z < 0) (n : Nat) (hn : z.toNatClampNeg = n) {cap : Nat} (hcap : n ≤ cap) (hb8 : cap * 8 ≤ 536870912)
    (hc : cells + 1 ≤ R.cells) (hl : slots + cap ≤ R.slots)
    (K : ∀ (b : Addr) (h' : Heap), b = h.size → Keep h h' [] → Avr Z h' b Cn (List.replicate n .null) → Go k h' (b :: os) (cells + 1) (slots + cap) pc' Ls (.ref b :: st)) : Go k h os cells slots pc Ls (.int z :: st) := by
  obtain ⟨p, l', e, R', s, m, args, below, meth, c, Z', EL', wd', wr', Q'⟩ := k
  obtain ⟨⟨rfl, rfl, rfl, rfl, rfl, rfl, rfl, rfl⟩, hx, hc', hml, hret, hlk, hnm, hZ, hown, hEL, hE, hwr⟩ := C
  obtain ⟨h1, rfl⟩ := hd
  intro T locs vm X e0 N S w A Kp ow
  have hZ' : Z'.Warmed39 (s.setVm vm).vm := State.Warmed39.trans (t := s) hZ S.1
  have hown' : (s.setVm vm).vm.findClass y.cls = some m.cls := (S.1.alike.findClass _ _).trans hown
  obtain ⟨T', h', cA, X', e', E, Ar, O, stp⟩ := newR X hx hZ' hown' w1 w2 e0 (g := mkF m pc Ls (.int z :: st)) rfl (hb hc' h1) rfl hz (cap := cap) (by rw [hn]; exact hcap) hb8 hc hl
  have V : Avr Z' h' h.size Cn (List.replicate n .null) := ⟨cA, z, by have := (Arv.new Ar hz).pad (pad_rep [] (.null) n); simpa [defaultValue] using this, by simpa using hn, O⟩
  exact mov (K h.size h' rfl (Keep.ofExt E) V) X' e' N (Since.up S E.1) w (A.trans (CHr.ext E A.1)) (Kp.ext E) (ownPush hE A Kp E Ar.lt ow) stp
theorem Go.aastore {k : KT} (C : Ctx k l y bytes maxL ret R Z a0 EL wd wr h0 Q) {pc pc' : Nat} {a b : Addr} {Cn : String} {vs vs' : List Value} {j : Int32} (V : Avr Z h a Cn vs) (ho : a ∈ os) (I : Ins Z h b Cn true) (i : Nat) (hj : ¬ j < 0) (hi : j.toNatClampNeg = i) (hlt : i < vs.length) (hvs : vs.set i (.ref b) = vs') (hd : De bytes pc .aastore 1 pc')
    (K : ∀ h' : Heap, Keep h h' [a] → Avr Z h' a Cn vs' → Go k h' os cells slots pc' Ls st) : Go k h os cells slots pc Ls (.ref b :: .int j :: .ref a :: st) := by
  obtain ⟨p, l', e, R', s, m, args, below, meth, c, Z', EL', wd', wr', Q'⟩ := k
  obtain ⟨⟨rfl, rfl, rfl, rfl, rfl, rfl, rfl, rfl⟩, hx, hc', hml, hret, hlk, hnm, hZ, hown, hEL, hE, hwr⟩ := C
  obtain ⟨h1, rfl⟩ := hd
  intro T locs vm X e0 N S w' A Kp ow
  have hZ' : Z'.Warmed39 (s.setVm vm).vm := State.Warmed39.trans (t := s) hZ S.1
  obtain ⟨kc, z, ⟨cl, Ar, r1, r2, r3, H, G⟩, ez, Ov⟩ := V
  obtain ⟨T', h', X', e', W, stp⟩ := stR X hx hZ' e0 Ar (j := j) (av_in (a := a) (ty := .int) (vs := vs) r2 ez hj hi hlt) rfl (Sto.ofV Ar r1 Ov I) (g := mkF m pc Ls (.ref b :: .int j :: .ref a :: st)) rfl rfl (hb hc' h1)
  have KW := Keep.of_wr W
  have os1 : ∀ x ∈ [a], x ∈ os := fun x hx => by cases List.mem_singleton.mp hx; exact ho
  have Ch := CHr.keep KW (safeOs ow os1) A.1
  subst hvs
  exact mov (K h' KW ⟨kc, z, Arv.set Ar r1 r2 r3 H G rfl W i hi hlt, by simpa using ez, Ov⟩) X' e' (Fr.snoc X' N (ow a ho).2.1) (Since.up S KW.1) w' (A.trans Ch) (keepOs Kp KW ow os1) (fun x hx => (ow x hx).chr Ch) stp
theorem copy_us {vs : List Value} {d : Value} {m n : Nat} (q : m + n ≤ vs.length) : ((List.range n).map fun i => vs.getD (m + i) d) = (vs.drop m).take n := by
  refine List.ext_getElem? fun i => ?_
  by_cases hi : i < n
  · simp [List.getElem?_take, hi, List.getD_eq_getElem?_getD, show m + i < vs.length by omega]
  · simp [List.getElem?_take, hi]
theorem Go.arraycopy {k : KT} (C : Ctx k l y bytes maxL ret R Z a0 EL wd wr h0 Q) {pc pc' i : Nat} {a b : Addr} {ty : FieldType} {vs vd vd' : List Value} {sp dp nn : Int32} (V : Av Z h a ty vs) (U : Av Z h b ty vd) (ho : b ∈ os) (hty : refKind ty = false) (w1 : (Cond.methodLink y.cls i Jvm.Stand.acN).before a0 Z = true) (w2 : (Cond.native Jvm.Stand.acN).before a0 Z = true) (w3 : (Cond.static Jvm.Stand.acN).before a0 Z = true) (w4 : (Cond.initialized "java/lang/System").before a0 Z = true)
    (h1 : ¬ sp < 0) (h2 : ¬ dp < 0) (h3 : ¬ nn < 0) (ms md n : Nat) (e1 : sp.toNatClampNeg = ms) (e2 : dp.toNatClampNeg = md) (e3 : nn.toNatClampNeg = n) (h4 : ms + n ≤ vs.length) (h5 : md + n ≤ vd.length) (hvd : vd.take md ++ (vs.drop ms).take n ++ vd.drop (md + n) = vd') (hd : De bytes pc (.invokestatic i) 3 pc') (hsz : Ls.size = maxL) (hf : 1 ≤ R.frames) (hlo : (st.map fun v => v.category).sum + 18 ≤ R.locals)
    (K : ∀ h' : Heap, Keep h h' [b] → Av Z h' b ty vd' → Go k h' os cells slots pc' Ls st) : Go k h os cells slots pc Ls (.int nn :: .int dp :: .ref b :: .int sp :: .ref a :: st) := by
  obtain ⟨p, l', e, R', s, m, args, below, meth, c, Z', EL', wd', wr', Q'⟩ := k
  obtain ⟨⟨rfl, rfl, rfl, rfl, rfl, rfl, rfl, rfl⟩, hx, hc', hml, hret, hlk, hnm, hZ, hown, hEL, hE, hwr⟩ := C
  obtain ⟨g1, rfl⟩ := hd
  intro T locs vm X e0 N S w' A Kp ow
  have hZ' : Z'.Warmed39 (s.setVm vm).vm := State.Warmed39.trans (t := s) hZ S.1
  have hown' : (s.setVm vm).vm.findClass y.cls = some m.cls := (S.1.alike.findClass _ _).trans hown
  obtain ⟨k1, z1, A1, ez1⟩ := V
  obtain ⟨k2, z2, A2, ez2⟩ := U
  obtain ⟨T', h', L, X', e', N', KW, Aw, stp⟩ := cpA X hx hZ' hown' w1 w2 w3 w4 e0 A1 A2 (Or.inl ⟨rfl, hty⟩) h1 h2 h3 (by rw [e1, e3, ez1]; exact h4) (by rw [e2, e3, ez2]; exact h5) (us := (vs.drop ms).take n) (by rw [e1, e3]; exact (copy_us h4).symm) (by rw [e2, e3]; exact h5) N (ow b ho).2.1 (g := mkF m pc Ls (.int nn :: .int dp :: .ref b :: .int sp :: .ref a :: st)) rfl (hsz.trans hml.symm) rfl (hb hc' g1) hf (W := (st.map fun v => v.category).sum) (by show 2 * 0 + _ ≤ _; omega) hlo
  rw [e2, e3, hvd] at Aw
  have os1 : ∀ x ∈ [b], x ∈ os := fun x hx => by cases List.mem_singleton.mp hx; exact ho
  have Ch := CHr.keep KW (safeOs ow os1) A.1
  refine mov (K h' KW ⟨k2, z2, Aw, ?_⟩) X' e' N' (Since.up S KW.1) w' (A.trans Ch) (keepOs Kp KW ow os1) (fun x hx => (ow x hx).chr Ch) stp
  rw [ez2, ← hvd]; simp; omega
theorem Go.ldcO {k : KT} (C : Ctx k l y bytes maxL ret R Z a0 EL true wr h0 Q) {pc pc' i : Nat} {text : String} (w : (Cond.stringLink y.cls i text).before a0 Z = true) (wS : ∀ a ∈ Bundle.stringAtoms, a.before a0 Z = true) (hd : De bytes pc (.ldc i) 2 pc') {n : Nat} (hn : 4 * text.toList.length ≤ n) (hbig : n ≤ 536870912) (hc : cells + 2 ≤ R.cells) (hl : slots + (n + 4) ≤ R.slots)
    (K : ∀ (a : Addr) (h' : Heap), Keep h h' [] → Go k h' os (cells + 2) (slots + (n + 4)) pc' Ls (.ref a :: st)) : Go k h os cells slots pc Ls st := by
  obtain ⟨p, l', e, R', s, m, args, below, meth, c, Z', EL', wd', wr', Q'⟩ := k
  obtain ⟨⟨rfl, rfl, rfl, rfl, rfl, rfl, rfl, rfl⟩, hx, hc', hml, hret, hlk, hnm, hZ, hown, hEL, hE, hwr⟩ := C
  obtain ⟨h1, rfl⟩ := hd
  intro T locs vm X e0 N S w' A Kp ow
  have hZ' : Z'.Warmed39 vm := State.Warmed39.trans (t := s) hZ S.1
  have hown' : vm.findClass y.cls = some m.cls := (S.1.alike.findClass _ _).trans hown
  obtain ⟨a, T', h', k1, X', e', E, S', hk1, -, -, Ch, -, stp⟩ := ldcOH X hx hZ' hown' w wS e0 S (Nat.le_refl _) hEL A.1 (g := mkF m pc Ls st) rfl (hb hc' h1) hn hbig hc hl
  refine mov (K a h' (Keep.ofExt E)) X' e' N (Since.up S' hk1) (fun q => Bool.noConfusion q) (A.trans Ch) (Kp.ext E) (fun x hx => (ow x hx).chr Ch) stp
theorem Go.checkcast {k : KT} (C : Ctx k l y bytes maxL ret R Z a0 EL wd wr h0 Q) {pc pc' i : Nat} {a : Addr} {Kn : String} (I : Ins Z h a Kn true) (w : (Cond.classLink y.cls i Kn).before a0 Z = true) (hd : De bytes pc (.checkcast i) 3 pc') (K : Go k h os cells slots pc' Ls (.ref a :: st)) : Go k h os cells slots pc Ls (.ref a :: st) := by
  obtain ⟨p, l', e, R', s, m, args, below, meth, c, Z', EL', wd', wr', Q'⟩ := k
  obtain ⟨⟨rfl, rfl, rfl, rfl, rfl, rfl, rfl, rfl⟩, hx, hc', hml, hret, hlk, hnm, hZ, hown, hEL, hE, hwr⟩ := C
  obtain ⟨h1, rfl⟩ := hd
  intro T locs vm X e0 N S w' A Kp ow
  have hZ' : Z'.Warmed39 (s.setVm vm).vm := State.Warmed39.trans (t := s) hZ S.1
  have hown' : (s.setVm vm).vm.findClass y.cls = some m.cls := (S.1.alike.findClass _ _).trans hown
  obtain ⟨T', X', e', stp⟩ := castY X hx hZ' hown' w e0 I (g := mkF m pc Ls (.ref a :: st)) rfl rfl (hb hc' h1)
  exact mov K X' e' N S w' A Kp ow stp
theorem Go.checkcastNull {k : KT} (C : Ctx k l y bytes maxL ret R Z a0 EL wd wr h0 Q) {pc pc' i : Nat} (hd : De bytes pc (.checkcast i) 3 pc') (K : Go k h os cells slots pc' Ls (.null :: st)) : Go k h os cells slots pc Ls (.null :: st) := by
  obtain ⟨p, l', e, R', s, m, args, below, meth, c, Z', EL', wd', wr', Q'⟩ := k
  obtain ⟨⟨rfl, rfl, rfl, rfl, rfl, rfl, rfl, rfl⟩, hx, hc', hml, hret, hlk, hnm, hZ, hown, hEL, hE, hwr⟩ := C
  obtain ⟨h1, rfl⟩ := hd
  intro T locs vm X e0 N S w' A Kp ow
  exact mov K X e0 N S w' A Kp ow (X.checkcastNull hx (g := mkF m pc Ls (.null :: st)) rfl rfl (hb hc' h1))
theorem Go.instanceofYes {k : KT} (C : Ctx k l y bytes maxL ret R Z a0 EL wd wr h0 Q) {pc pc' i : Nat} {a : Addr} {Kn : String} (I : Ins Z h a Kn true) (w : (Cond.classLink y.cls i Kn).before a0 Z = true) (hd : De bytes pc (.instanceof i) 3 pc') (K : Go k h os cells slots pc' Ls (.int 1 :: st)) : Go k h os cells slots pc Ls (.ref a :: st) := by
  obtain ⟨p, l', e, R', s, m, args, below, meth, c, Z', EL', wd', wr', Q'⟩ := k
  obtain ⟨⟨rfl, rfl, rfl, rfl, rfl, rfl, rfl, rfl⟩, hx, hc', hml, hret, hlk, hnm, hZ, hown, hEL, hE, hwr⟩ := C
  obtain ⟨h1, rfl⟩ := hd
  intro T locs vm X e0 N S w' A Kp ow
  have hZ' : Z'.Warmed39 (s.setVm vm).vm := State.Warmed39.trans (t := s) hZ S.1
  have hown' : (s.setVm vm).vm.findClass y.cls = some m.cls := (S.1.alike.findClass _ _).trans hown
  obtain ⟨T', X', e', stp⟩ := instY X hx hZ' hown' w e0 I (g := mkF m pc Ls (.ref a :: st)) rfl rfl (hb hc' h1)
  exact mov K X' e' N S w' A Kp ow stp
theorem noSub {C O K : String} {n : Nat} (w1 : (Cond.superclass C O).before a0 Z = true) (w0 : (Cond.noSuperclass O).before a0 Z = true) (wk : (Cond.instantiable K n).before a0 Z = true) (q1 : C ≠ K) (q2 : O ≠ K) : ∃ c t, Z.vm.findClass C = some c ∧ Z.vm.findClass K = some t ∧ Z.vm.assignable c t = false := by
  obtain ⟨c, hc⟩ := found_sup w1
  obtain ⟨o, k, kp, a1, a2, a3, a4, a5, a6, a7⟩ := Cond.superclass_spec hc w1
  obtain ⟨o', ko, b1, b2, b3, -, -⟩ := Cond.noSuperclass_spec w0
  obtain ⟨t, kt, t1, t2, t3, t4, -⟩ := Cond.instantiable_spec wk
  cases a1.symm.trans b1
  have n1 := ids_ne hc t1 q1
  have n2 := ids_ne b1 t1 q2
  have hi : kt.isInterface = false := (Bool.or_eq_false_iff.mp t4).1
  refine ⟨c, t, hc, t1, ?_⟩
  have sub : ∀ fuel, Z.vm.isSubclassAux fuel c t = false := fun fuel => by
    rcases fuel with _ | _ | f
    · rfl
    · simp [Vm.isSubclassAux, n1, a2, a4]
    · simp [Vm.isSubclassAux, n1, n2, a2, a4, b2, b3]
  show Z.vm.assignableAux (255 + 1) c t = false
  simp [Vm.assignableAux, n1, a2, t2, a5, t3, hi, Vm.isSubclass, sub]
theorem Go.instanceofNo {k : KT} (C : Ctx k l y bytes maxL ret R Z a0 EL wd wr h0 Q) {pc pc' i : Nat} {a : Addr} {Cn Kn : String} (E : Exa Z h a Cn) (F : ∃ c t, Z.vm.findClass Cn = some c ∧ Z.vm.findClass Kn = some t ∧ Z.vm.assignable c t = false) (w : (Cond.classLink y.cls i Kn).before a0 Z = true) (hd : De bytes pc (.instanceof i) 3 pc') (K : Go k h os cells slots pc' Ls (.int 0 :: st)) : Go k h os cells slots pc Ls (.ref a :: st) := by
  obtain ⟨p, l', e, R', s, m, args, below, meth, c, Z', EL', wd', wr', Q'⟩ := k
  obtain ⟨⟨rfl, rfl, rfl, rfl, rfl, rfl, rfl, rfl⟩, hx, hc', hml, hret, hlk, hnm, hZ, hown, hEL, hE, hwr⟩ := C
  obtain ⟨h1, rfl⟩ := hd
  intro T locs vm X e0 N S w' A Kp ow
  have hZ' : Z'.Warmed39 (s.setVm vm).vm := State.Warmed39.trans (t := s) hZ S.1
  have hown' : (s.setVm vm).vm.findClass y.cls = some m.cls := (S.1.alike.findClass _ _).trans hown
  obtain ⟨T', X', e', stp⟩ := instNo X hx hZ' hown' w e0 E F (g := mkF m pc Ls (.ref a :: st)) rfl rfl (hb hc' h1)
  exact mov K X' e' N S w' A Kp ow stp
theorem Go.instanceofNull {k : KT} (C : Ctx k l y bytes maxL ret R Z a0 EL wd wr h0 Q) {pc pc' i : Nat} (hd : De bytes pc (.instanceof i) 3 pc') (K : Go k h os cells slots pc' Ls (.int 0 :: st)) : Go k h os cells slots pc Ls (.null :: st) := by
  obtain ⟨p, l', e, R', s, m, args, below, meth, c, Z', EL', wd', wr', Q'⟩ := k
  obtain ⟨⟨rfl, rfl, rfl, rfl, rfl, rfl, rfl, rfl⟩, hx, hc', hml, hret, hlk, hnm, hZ, hown, hEL, hE, hwr⟩ := C
  obtain ⟨h1, rfl⟩ := hd
  intro T locs vm X e0 N S w' A Kp ow
  exact mov K X e0 N S w' A Kp ow (X.instanceofNull hx (g := mkF m pc Ls (.null :: st)) rfl rfl (hb hc' h1))
theorem Go.initO {k : KT} (C : Ctx k l y bytes maxL ret R Z a0 EL wd wr h0 Q) {pc pc' i : Nat} {a : Addr} (w1 : (Cond.methodLink y.cls i Lib.objectInit).before a0 Z = true) (w2 : (Cond.instanceMethod Lib.objectInit).before a0 Z = true) (w3 : (Cond.code Lib.objectInit ⟨#[0xb1]⟩ 1 none).before a0 Z = true)
    (hd : De bytes pc (.invokespecial i) 3 pc') (hs : Ls.size = maxL) (hf : 1 ≤ R.frames) (hl : (st.map fun v => v.category).sum + 12 ≤ R.locals) (K : Go k h os cells slots pc' Ls st) : Go k h os cells slots pc Ls (.ref a :: st) := by
  obtain ⟨p, l', e, R', s, m, args, below, meth, c, Z', EL', wd', wr', Q'⟩ := k
  obtain ⟨⟨rfl, rfl, rfl, rfl, rfl, rfl, rfl, rfl⟩, hx, hc', hml, hret, hlk, hnm, hZ, hown, hEL, hE, hwr⟩ := C
  obtain ⟨h1, rfl⟩ := hd
  intro T locs vm X e0 N S w' A Kp ow
  have hZ' : Z'.Warmed39 (s.setVm vm).vm := State.Warmed39.trans (t := s) hZ S.1
  have hown' : (s.setVm vm).vm.findClass y.cls = some m.cls := (S.1.alike.findClass _ _).trans hown
  obtain ⟨T', X', e', stp⟩ := RoadKit.initO X hx hZ' hown' w1 w2 w3 e0 (g := mkF m pc Ls (.ref a :: st)) rfl (hs.trans hml.symm) rfl (hb hc' h1) hf (W := (st.map fun v => v.category).sum) (by show 2 * 0 + _ ≤ _; omega) hl
  exact mov K X' e' N S w' A Kp ow stp
theorem Go.acmp {k : KT} (C : Ctx k l y bytes maxL ret R Z a0 EL wd wr h0 Q) {pc pc' pcT : Nat} {cd : ACond} {u v : Value} (same : Bool) (hd : DeJ bytes pc (.if_acmp cd) pc' pcT) (h1 : u.isRef = true) (h2 : v.isRef = true) (hq : decide (u = v) = same) {pcN : Nat} (hp : pcN = if acV cd same = true then pcT else pc') (K : Go k h os cells slots pcN Ls st) : Go k h os cells slots pc Ls (v :: u :: st) := by
  obtain ⟨p, l', e, R', s, m, args, below, meth, c, Z', EL', wd', wr', Q'⟩ := k
  obtain ⟨⟨rfl, rfl, rfl, rfl, rfl, rfl, rfl, rfl⟩, hx, hc', hml, hret, hlk, hnm, hZ, hown, hEL, hE, hwr⟩ := C
  obtain ⟨o, g1, rfl, g2, g3⟩ := hd
  intro T locs vm X e0 N S w' A Kp ow
  refine Fen.of (fun t kt => RoadKit.acmp X hx (g := mkF m pc Ls (v :: u :: st)) rfl h1 h2 (pc0 := pc) (pc' := pcN) (same := same) rfl (hb hc' g1) rfl hq g2 (by rw [hp, g3]) kt) (K T locs vm X e0 N S w' A Kp ow)
theorem Go.eqI {k : KT} {pc : Nat} {x x' : Int32} (e : x = x') (K : Go k h os cells slots pc Ls (.int x' :: st)) : Go k h os cells slots pc Ls (.int x :: st) := e ▸ K
theorem Go.eqJ {k : KT} {pc : Nat} {x x' : Int64} (e : x = x') (K : Go k h os cells slots pc Ls (.long x' :: st)) : Go k h os cells slots pc Ls (.long x :: st) := e ▸ K
theorem ne_lt {a b n : Nat} (q : a < n) (e : n ≤ b) : a ≠ b := Nat.ne_of_lt (Nat.lt_of_lt_of_le q e)
theorem ge_of {b n : Nat} (e : b = n) : n ≤ b := Nat.le_of_eq e.symm
theorem Go.ldcI {k : KT} (C : Ctx k l y bytes maxL ret R Z a0 EL wd wr h0 Q) {pc pc' i : Nat} {v : Int32} (w : (Cond.constant y.cls i v).before a0 Z = true) (hd : De bytes pc (.ldc i) 2 pc') (K : Go k h os cells slots pc' Ls (.int v :: st)) : Go k h os cells slots pc Ls st := by
  obtain ⟨p, l', e, R', s, m, args, below, meth, c, Z', EL', wd', wr', Q'⟩ := k
  obtain ⟨⟨rfl, rfl, rfl, rfl, rfl, rfl, rfl, rfl⟩, hx, hc', hml, hret, hlk, hnm, hZ, hown, hEL, hE, hwr⟩ := C
  obtain ⟨h1, rfl⟩ := hd
  intro T locs vm X e0 N S w' A Kp ow
  have hZ' : Z'.Warmed39 (s.setVm vm).vm := State.Warmed39.trans (t := s) hZ S.1
  have hown' : (s.setVm vm).vm.findClass y.cls = some m.cls := (S.1.alike.findClass _ _).trans hown
  exact mov K X e0 N S w' A Kp ow (X.ldcInt hx hown' (mvT hZ' w) (g := mkF m pc Ls st) rfl (hb hc' h1))
theorem Go.ldcWI {k : KT} (C : Ctx k l y bytes maxL ret R Z a0 EL wd wr h0 Q) {pc pc' i : Nat} {v : Int32} (w : (Cond.constant y.cls i v).before a0 Z = true) (hd : De bytes pc (.ldc_w i) 3 pc') (K : Go k h os cells slots pc' Ls (.int v :: st)) : Go k h os cells slots pc Ls st := by
  obtain ⟨p, l', e, R', s, m, args, below, meth, c, Z', EL', wd', wr', Q'⟩ := k
  obtain ⟨⟨rfl, rfl, rfl, rfl, rfl, rfl, rfl, rfl⟩, hx, hc', hml, hret, hlk, hnm, hZ, hown, hEL, hE, hwr⟩ := C
  obtain ⟨h1, rfl⟩ := hd
  intro T locs vm X e0 N S w' A Kp ow
  have hZ' : Z'.Warmed39 (s.setVm vm).vm := State.Warmed39.trans (t := s) hZ S.1
  have hown' : (s.setVm vm).vm.findClass y.cls = some m.cls := (S.1.alike.findClass _ _).trans hown
  exact mov K X e0 N S w' A Kp ow (X.ldcwInt hx hown' (mvT hZ' w) (g := mkF m pc Ls st) rfl (hb hc' h1))
theorem Go.ldcJ {k : KT} (C : Ctx k l y bytes maxL ret R Z a0 EL wd wr h0 Q) {pc pc' i : Nat} {v : Int64} (w : (Cond.constantLong y.cls i v).before a0 Z = true) (hd : De bytes pc (.ldc2_w i) 3 pc') (K : Go k h os cells slots pc' Ls (.long v :: st)) : Go k h os cells slots pc Ls st := by
  obtain ⟨p, l', e, R', s, m, args, below, meth, c, Z', EL', wd', wr', Q'⟩ := k
  obtain ⟨⟨rfl, rfl, rfl, rfl, rfl, rfl, rfl, rfl⟩, hx, hc', hml, hret, hlk, hnm, hZ, hown, hEL, hE, hwr⟩ := C
  obtain ⟨h1, rfl⟩ := hd
  intro T locs vm X e0 N S w' A Kp ow
  have hZ' : Z'.Warmed39 (s.setVm vm).vm := State.Warmed39.trans (t := s) hZ S.1
  have hown' : (s.setVm vm).vm.findClass y.cls = some m.cls := (S.1.alike.findClass _ _).trans hown
  exact mov K X e0 N S w' A Kp ow (X.ldc2Long hx hown' (mvT hZ' w) (g := mkF m pc Ls st) rfl (hb hc' h1))
theorem sizeExt {h' : Heap} {a : Addr} {C : String} (E : Exa Z h' a C) : a < h'.size := E.lt
theorem Go.ldcStr {k : KT} (C : Ctx k l y bytes maxL ret R Z a0 EL true wr h0 Q) {pc pc' i : Nat} {text : String} (w : (Cond.stringLink y.cls i text).before a0 Z = true) (wS : ∀ a ∈ Bundle.stringAtoms, a.before a0 Z = true) (hmem : (y.cls, i) ∈ EL) {bs : List Int32}
    (ht : (∀ c ∈ text.toList, c.toNat < 256) ∧ text.toList.map (fun c => Value.int (Jvm.Lit.byteI c.toNat.toUInt16)) = bs.map .int) (hln : (Int32.ofNat bs.length).toNatClampNeg = bs.length ∧ ¬ (Int32.ofNat bs.length) < 0) (hd : De bytes pc (.ldc i) 2 pc') {n : Nat} (hn : 4 * text.toList.length ≤ n) (hbig : n ≤ 536870912) (hc : cells + 2 ≤ R.cells) (hl : slots + (n + 4) ≤ R.slots)
    (K : ∀ (a t : Addr) (h' : Heap), Keep h h' [] → Str Z h' a t bs → (∀ x ∈ os, a ≠ x ∧ t ≠ x) → Go k h' os (cells + 2) (slots + (n + 4)) pc' Ls (.ref a :: st)) : Go k h os cells slots pc Ls st := by
  obtain ⟨p, l', e, R', s, m, args, below, meth, c, Z', EL', wd', wr', Q'⟩ := k
  obtain ⟨⟨rfl, rfl, rfl, rfl, rfl, rfl, rfl, rfl⟩, hx, hc', hml, hret, hlk, hnm, hZ, hown, hEL, hE, hwr⟩ := C
  obtain ⟨h1, rfl⟩ := hd
  intro T locs vm X e0 N S w' A Kp ow
  have hZ' : Z'.Warmed39 vm := State.Warmed39.trans (t := s) hZ S.1
  have hown' : vm.findClass y.cls = some m.cls := (S.1.alike.findClass _ _).trans hown
  obtain ⟨a, T', h', k1, b, kc, X', e', E, S', hk1, -, -, Ex, Fc, Fv, Av1, -, -, Ch, -, hsf, stp⟩ := ldcCH X hx hZ' hown' w wS e0 S (Nat.le_refl _) hEL hmem A.1 (vs := bs.map .int) (z := Int32.ofNat bs.length) ht hln.2 (by rw [hln.1]; simp) (g := mkF m pc Ls st) rfl (hb hc' h1) hn hbig hc hl
  have Sx : Str Z' h' a b bs := ⟨⟨Ex, rfl, fun i q v g1 g2 => by
    match i, g1, g2 with
    | 0, g1, g2 => cases g1; cases g2; exact Fv
    | 1, g1, g2 => cases g1; cases g2; exact Fc
    | i + 2, g1, g2 => simp [fStr] at g1⟩, ⟨kc, Int32.ofNat bs.length, Av1, by rw [hln.1]; simp⟩⟩
  have Kx : Keep h h' [] := Keep.ofExt E
  refine mov (K a b h' Kx Sx fun x hx => ⟨fun q => (hsf x ((ow x hx).chr Ch).1).1 q.symm, fun q => (hsf x ((ow x hx).chr Ch).1).2 q.symm⟩) X' e' N (Since.up S' hk1) (fun q => Bool.noConfusion q) (A.trans Ch) (Kp.ext E) (fun x hx => (ow x hx).chr Ch) stp
theorem Go.acmpne {k : KT} (C : Ctx k l y bytes maxL ret R Z a0 EL wd wr h0 Q) {pc pc' pcT : Nat} {a b : Addr} (hd : DeJ bytes pc (.if_acmp .ne) pc' pcT) (KD : ¬ (a = b) → Go k h os cells slots pcT Ls st) (KS : a = b → Go k h os cells slots pc' Ls st) : Go k h os cells slots pc Ls (.ref b :: .ref a :: st) := by
  by_cases q : a = b
  · exact Go.acmp C true hd rfl rfl (decide_eq_true (congrArg _ q)) rfl (KS q)
  · exact Go.acmp C false hd rfl rfl (decide_eq_false fun z => q (Value.ref.inj z)) rfl (KD q)
theorem Go.acmpeq {k : KT} (C : Ctx k l y bytes maxL ret R Z a0 EL wd wr h0 Q) {pc pc' pcT : Nat} {a b : Addr} (hd : DeJ bytes pc (.if_acmp .eq) pc' pcT) (KS : a = b → Go k h os cells slots pcT Ls st) (KD : ¬ (a = b) → Go k h os cells slots pc' Ls st) : Go k h os cells slots pc Ls (.ref b :: .ref a :: st) := by
  by_cases q : a = b
  · exact Go.acmp C true hd rfl rfl (decide_eq_true (congrArg _ q)) rfl (KS q)
  · exact Go.acmp C false hd rfl rfl (decide_eq_false fun z => q (Value.ref.inj z)) rfl (KD q)
/-- a callee's contract, as its caller takes it -/
theorem conBack {p : Program} {e : Env} {s : State} {args : Array Value} {below : List Frame} {z : MethodName} {bz : ByteArray} {mz : Nat} {rz : Option FieldType} {rm : Room} {as' : Array Value} {wr' : List Addr} {Q' : QT} {vm : Vm} {len W : Nat}
    (M : Con l Z EL wd z bz mz rz rm [] as' h wr' Q') (hZ : Z.Warmed39 vm) (wc : (Cond.code z bz mz rz).before a0 Z = true) (wz : (Cond.initialized z.cls).before a0 Z = true) (hf : rm.frames + 1 ≤ R.frames) (hl : W + (mz + 11) + rm.locals ≤ R.locals) (hEL : EW Z a0 EL) (H : CHv Z EL vm h) (hE : Ext Z.heap h) (hs : ∀ x ∈ wr', Safe Z EL vm h x ∧ Z.heap.size ≤ x ∧ x < h.size) :
    BackS l R p e below (s.setVm vm) args z len W (fun A a => a = as' ∧ A.U.heap = h ∧ A.cells + rm.cells ≤ R.cells ∧ A.slots + rm.slots ≤ R.slots)
      (fun A _ v B => ∃ L os, Q' v B.U.heap os ∧ (∀ x ∈ os, Safe Z EL B.U.vm B.U.heap x ∧ h.size ≤ x ∧ x < B.U.heap.size) ∧ Keep h B.U.heap wr' ∧ Fr Z.heap.size L ∧ CHr Z EL vm h B.U.vm B.U.heap ∧ (wd = false → (s.setVm vm).WarmedH B.U.vm) ∧ B.locs = A.locs ++ L ∧ B.cells = A.cells + rm.cells ∧ B.slots = A.slots + rm.slots) :=
  BackS.of_freeW (bytes := bz) (maxL := mz) (ret := rz) (E := fun _ first o t L k n => k = rm.cells ∧ n = rm.slots ∧ (∃ v os, o = .returned v ∧ Q' v t.heap os ∧ (∀ x ∈ os, Safe Z EL t.vm t.heap x ∧ first.heap.size ≤ x ∧ x < t.heap.size) ∧ Keep first.heap t.heap wr' ∧ Fr Z.heap.size L) ∧ CHr Z EL first.vm first.heap t.vm t.heap ∧ (wd = false → first.WarmedH t.vm)) M hf hl
    (fun m meth c A a Y hp => have hU : Z.Warmed39 A.U.vm := wtrans (s := s.setVm vm) hZ Y.warmed
      ⟨by show (Cond.and _ .tt).before a A.U = true; rw [Cond.before_and, mv hU wc]; rfl, mv hU wc, mv hU wz, hp.2.2.1, hp.2.2.2⟩)
    (fun m meth c A a g mk Y hp => ⟨hp.1, wtrans (s := s.setVm vm) hZ Y.warmed, hp.2.1, (CHv.at Y hZ hEL H).1, hE, fun x hx => ⟨(CHv.at Y hZ hEL H).safe (hs x hx).2.2 (hs x hx).1, (hs x hx).2⟩⟩) (fun _ _ _ _ _ _ _ _ _ => trivial)
    (fun _ _ _ _ ⟨v, L, os, h1, h2, h3, h4, h5, h6, h7, h8⟩ => ⟨L, _, _, h7, rfl, rfl, ⟨v, os, h1, h2, h3, h4, h5⟩, h6, fun q => (h8 q).2.1⟩)
    (fun m meth c A a g mk v t L k n Y hp _ _ ⟨e1, e2, ⟨v', os, e3, e4, e5, e6, e7⟩, e8, e9⟩ => by
      cases e3; subst e1 e2
      have eh : (A.U.calling g mk a).heap = h := hp.2.1
      rw [eh] at e6 e8
      refine ⟨L, os, e4, fun x hx => ?_, e6, e7, (CHv.at Y hZ hEL H).trans e8, fun q => State.WarmedH.trans Y.warmed (e9 q), rfl, rfl, rfl⟩
      have := e5 x hx
      rw [eh] at this; exact this)
theorem afterCall {p : Program} {e : Env} {s : State} {m : MethodId} {args : Array Value} {below : List Frame} {meth : Method} {c : Code} {T : State} {locs : List Loc} {vm : Vm} {rm : Room} {wr' : List Addr} {Q' : QT} {pc pc' : Nat} {st0 : List Value} {v : Option Value} {B : Pt} {L : List Loc} {os' : List Addr}
    (N : Fr Z.heap.size locs) (S : s.Since vm h.size) (w : wd = false → s.WarmedH vm) (A : CHr Z EL s.vm s.heap vm h) (Kp : Keep s.heap h wr) (hE : Ext Z.heap s.heap) (ow : ∀ x ∈ os, Own Z s.heap EL wr vm h x) (how : ∀ x ∈ wr', x ∈ os)
    (K : Go ⟨p, l, e, R, s, m, args, below, meth, c, Z, EL, wd, wr, Q⟩ B.U.heap (os' ++ os) (cells + rm.cells) (slots + rm.slots) pc' Ls (v.toList ++ st))
    (X' : Stand p l e R ((s.setVm vm).setVm B.U.vm) m args below meth c B.U B.locs B.cells B.slots) (hS : (s.setVm vm).Since B.U.vm B.U.heap.size) (hgr : h.size ≤ B.U.heap.size)
    (q2 : ∀ x ∈ os', Safe Z EL B.U.vm B.U.heap x ∧ h.size ≤ x ∧ x < B.U.heap.size) (q3 : Keep h B.U.heap wr') (q4 : Fr Z.heap.size L) (q5 : CHr Z EL vm h B.U.vm B.U.heap) (q6 : wd = false → (s.setVm vm).WarmedH B.U.vm) (q7 : B.locs = locs ++ L) (q8 : B.cells = cells + rm.cells) (q9 : B.slots = slots + rm.slots)
    (stp : Steps p.tables e below (T.setTop (mkF m pc Ls st0)) (B.U.setTop (mkF m pc' Ls (v.toList ++ st)))) : Fen p e below (Done Z EL wd R wr Q s) (T.setTop (mkF m pc Ls st0)) := by
  rw [q7, q8, q9] at X'
  refine mov (vm' := B.U.vm) K X' rfl (N.app q4) (S.trans hS hgr) (fun q => State.WarmedH.trans (w q) (q6 q)) (A.trans q5) (keepOs Kp q3 ow how) (fun x hx => ?_) (fun t kt => stp.trans kt)
  rcases List.mem_append.mp hx with hx | hx
  · obtain ⟨z1, z2, z3⟩ := q2 x hx
    exact ⟨z1, Nat.le_trans hE.1 (Nat.le_trans Kp.1 z2), z3, Or.inr (Nat.le_trans Kp.1 z2)⟩
  · exact (ow x hx).chr q5
theorem Go.callS {k : KT} (C : Ctx k l y bytes maxL ret R Z a0 EL wd wr h0 Q) {pc pc' : Nat} {i : Nat} {z : MethodName} {bz : ByteArray} {mz : Nat} {rz : Option FieldType} {rm : Room} {wr' : List Addr} {Q' : QT} {argsL : List Value} {ps : List FieldType} {rr : Option FieldType}
    (M : Con l Z EL wd z bz mz rz rm [] argsL.toArray h wr' Q') (w1 : (Cond.methodLink y.cls i z).before a0 Z = true) (w2 : (Cond.static z).before a0 Z = true) (w3 : (Cond.initialized z.cls).before a0 Z = true) (w4 : (Cond.code z bz mz rz).before a0 Z = true) (hd : De bytes pc (.invokestatic i) 3 pc') (hpd : parseMethodDescriptor z.desc = some ⟨ps, rr⟩) (hln : argsL.length = ps.length) (hmh : z.cls ≠ "java/lang/invoke/MethodHandle" ∧ z.cls ≠ "java/lang/invoke/VarHandle") (hsz : Ls.size = maxL) {st0 : List Value} (hst : st0 = argsL.reverse ++ st) (hfr : rm.frames + 1 ≤ R.frames) (hlo : (st.map fun v => v.category).sum + (mz + 11) + rm.locals ≤ R.locals) (hce : cells + rm.cells ≤ R.cells) (hsl : slots + rm.slots ≤ R.slots) (how : ∀ x ∈ wr', x ∈ os)
    (K : ∀ (v : Option Value) (h' : Heap) (os' : List Addr), Q' v h' os' → Keep h h' wr' → (∀ x ∈ os', h.size ≤ x ∧ x < h'.size) → Go k h' (os' ++ os) (cells + rm.cells) (slots + rm.slots) pc' Ls (v.toList ++ st)) : Go k h os cells slots pc Ls st0 := by
  obtain ⟨p, l', e, R', s, m, args, below, meth, c, Z', EL', wd', wr', Q'⟩ := k
  obtain ⟨⟨rfl, rfl, rfl, rfl, rfl, rfl, rfl, rfl⟩, hx, hc', hml, hret, hlk, hnm, hZ, hown, hEL, hE, hwr⟩ := C
  obtain ⟨h1, rfl⟩ := hd
  intro T locs vm X e0 N S w' A Kp ow
  have hZ' : Z'.Warmed39 (s.setVm vm).vm := State.Warmed39.trans (t := s) hZ S.1
  have hown' : (s.setVm vm).vm.findClass y.cls = some m.cls := (S.1.alike.findClass _ _).trans hown
  subst hst
  obtain ⟨v, vm₁, B, -, X', hS, hgr, hpost, stp⟩ := callSS X hx hown' (mvT hZ' w1) (mvT hZ' w2) (mvT hZ' w3) (mvT hZ' w4) hmh (conBack (p := p) (e := e) (below := below) (s := s) (args := args) M hZ' w4 w3 hfr hlo hEL A.1 (ext0 hE Kp hwr) (fun x hx => ⟨(ow x (how x hx)).1, (ow x (how x hx)).2.1, (ow x (how x hx)).2.2.1⟩)) (g := mkF m pc Ls (argsL.reverse ++ st)) rfl (hsz.trans hml.symm) (argsL := argsL) (rest := st) (lenOf hpd hln) rfl (by show 2 * 0 + _ ≤ _; exact Nat.le_of_eq (Nat.zero_add _)) (hb hc' h1) (fun _ _ => ⟨rfl, e0, hce, hsl⟩)
  obtain ⟨L, os', q1, q2, q3, q4, q5, q6, q7, q8, q9⟩ := hpost
  exact afterCall (Q' := Q') (rm := rm) N S w' A Kp hE ow how (K v B.U.heap os' q1 q3 fun x hx => (q2 x hx).2) X' hS (e0 ▸ hgr) q2 q3 q4 q5 q6 q7 q8 q9 stp
theorem Go.callI {k : KT} (C : Ctx k l y bytes maxL ret R Z a0 EL wd wr h0 Q) {pc pc' : Nat} {i : Nat} {a : Addr} {z : MethodName} {bz : ByteArray} {mz : Nat} {rm : Room} {wr' : List Addr} {Q' : QT} {argsL : List Value} {ps : List FieldType} {rr : Option FieldType}
    (M : Con l Z EL wd z bz mz none rm [] (.ref a :: argsL).toArray h wr' Q') (hin : z.name = "<init>") (w1 : (Cond.methodLink y.cls i z).before a0 Z = true) (w2 : (Cond.instanceMethod z).before a0 Z = true) (w3 : (Cond.initialized z.cls).before a0 Z = true) (w4 : (Cond.code z bz mz none).before a0 Z = true) (hd : De bytes pc (.invokespecial i) 3 pc') (hpd : parseMethodDescriptor z.desc = some ⟨ps, rr⟩) (hln : argsL.length = ps.length) (hmh : z.cls ≠ "java/lang/invoke/MethodHandle" ∧ z.cls ≠ "java/lang/invoke/VarHandle") (hsz : Ls.size = maxL) {st0 : List Value} (hst : st0 = argsL.reverse ++ .ref a :: st) (hfr : rm.frames + 1 ≤ R.frames) (hlo : (st.map fun v => v.category).sum + (mz + 11) + rm.locals ≤ R.locals) (hce : cells + rm.cells ≤ R.cells) (hsl : slots + rm.slots ≤ R.slots) (how : ∀ x ∈ wr', x ∈ os)
    (K : ∀ (v : Option Value) (h' : Heap) (os' : List Addr), Q' v h' os' → Keep h h' wr' → (∀ x ∈ os', h.size ≤ x ∧ x < h'.size) → Go k h' (os' ++ os) (cells + rm.cells) (slots + rm.slots) pc' Ls (v.toList ++ st)) : Go k h os cells slots pc Ls st0 := by
  obtain ⟨p, l', e, R', s, m, args, below, meth, c, Z', EL', wd', wr', Q'⟩ := k
  obtain ⟨⟨rfl, rfl, rfl, rfl, rfl, rfl, rfl, rfl⟩, hx, hc', hml, hret, hlk, hnm, hZ, hown, hEL, hE, hwr⟩ := C
  obtain ⟨h1, rfl⟩ := hd
  intro T locs vm X e0 N S w' A Kp ow
  have hZ' : Z'.Warmed39 (s.setVm vm).vm := State.Warmed39.trans (t := s) hZ S.1
  have hown' : (s.setVm vm).vm.findClass y.cls = some m.cls := (S.1.alike.findClass _ _).trans hown
  subst hst
  obtain ⟨v, vm₁, B, -, X', hS, hgr, hpost, stp⟩ := X.specialBackS hx hin hown' (mvT hZ' w1) (mvT hZ' w2) (mvT hZ' w4) hmh (conBack (p := p) (e := e) (below := below) (s := s) (args := args) M hZ' w4 w3 hfr hlo hEL A.1 (ext0 hE Kp hwr) (fun x hx => ⟨(ow x (how x hx)).1, (ow x (how x hx)).2.1, (ow x (how x hx)).2.2.1⟩)) (g := mkF m pc Ls (argsL.reverse ++ .ref a :: st)) rfl (hsz.trans hml.symm) (Steps.refl _) (a := a) (argsL := argsL) (rest := st) (lenOf hpd hln) rfl (by show 2 * 0 + _ ≤ _; exact Nat.le_of_eq (Nat.zero_add _)) (hb hc' h1) (fun _ _ => ⟨rfl, e0, hce, hsl⟩)
  obtain ⟨L, os', q1, q2, q3, q4, q5, q6, q7, q8, q9⟩ := hpost
  exact afterCall (Q' := Q') (rm := rm) N S w' A Kp hE ow how (K v B.U.heap os' q1 q3 fun x hx => (q2 x hx).2) X' hS (e0 ▸ hgr) q2 q3 q4 q5 q6 q7 q8 q9 stp
theorem Go.callV {k : KT} (C : Ctx k l y bytes maxL ret R Z a0 EL wd wr h0 Q) {pc pc' : Nat} {i : Nat} {a : Addr} {Cn : String} {zr : MethodName} {z : MethodName} {bz : ByteArray} {mz : Nat} {rz : Option FieldType} {rm : Room} {wr' : List Addr} {Q' : QT} {argsL : List Value} {ps : List FieldType} {rr : Option FieldType}
    (M : Con l Z EL wd z bz mz rz rm [] (.ref a :: argsL).toArray h wr' Q') (Ex : Exa Z h a Cn) (w1 : (Cond.methodLink y.cls i zr).before a0 Z = true) (wd1 : (Cond.declares zr).before a0 Z = true) (nf : ∀ {s : State}, Z.Warmed39 s.vm → NotFace s zr) (ws : (Cond.selects Cn zr z).before a0 Z = true) (w2 : (Cond.instanceMethod z).before a0 Z = true) (w3 : (Cond.initialized z.cls).before a0 Z = true) (w4 : (Cond.code z bz mz rz).before a0 Z = true) (hd : De bytes pc (.invokevirtual i) 3 pc') (hpd : parseMethodDescriptor zr.desc = some ⟨ps, rr⟩) (hln : argsL.length = ps.length) (hmh : zr.cls ≠ "java/lang/invoke/MethodHandle" ∧ zr.cls ≠ "java/lang/invoke/VarHandle") (hsz : Ls.size = maxL) {st0 : List Value} (hst : st0 = argsL.reverse ++ .ref a :: st) (hfr : rm.frames + 1 ≤ R.frames) (hlo : (st.map fun v => v.category).sum + (mz + 11) + rm.locals ≤ R.locals) (hce : cells + rm.cells ≤ R.cells) (hsl : slots + rm.slots ≤ R.slots) (how : ∀ x ∈ wr', x ∈ os)
    (K : ∀ (v : Option Value) (h' : Heap) (os' : List Addr), Q' v h' os' → Keep h h' wr' → (∀ x ∈ os', h.size ≤ x ∧ x < h'.size) → Go k h' (os' ++ os) (cells + rm.cells) (slots + rm.slots) pc' Ls (v.toList ++ st)) : Go k h os cells slots pc Ls st0 := by
  obtain ⟨p, l', e, R', s, m, args, below, meth, c, Z', EL', wd', wr', Q'⟩ := k
  obtain ⟨⟨rfl, rfl, rfl, rfl, rfl, rfl, rfl, rfl⟩, hx, hc', hml, hret, hlk, hnm, hZ, hown, hEL, hE, hwr⟩ := C
  obtain ⟨h1, rfl⟩ := hd
  intro T locs vm X e0 N S w' A Kp ow
  have hZ' : Z'.Warmed39 (s.setVm vm).vm := State.Warmed39.trans (t := s) hZ S.1
  have hown' : (s.setVm vm).vm.findClass y.cls = some m.cls := (S.1.alike.findClass _ _).trans hown
  subst hst
  obtain ⟨cq, kq, q1a, q1b, q1c⟩ := isOf hZ' e0 Ex
  obtain ⟨v, vm₁, B, -, X', hS, hgr, hpost, stp⟩ := X.virtualBackS hx hown' (mvT hZ' w1) (mvT hZ' wd1) (nf hZ') (mvT hZ' ws) (mvT hZ' w2) hmh (conBack (p := p) (e := e) (below := below) (s := s) (args := args) M hZ' w4 w3 hfr hlo hEL A.1 (ext0 hE Kp hwr) (fun x hx => ⟨(ow x (how x hx)).1, (ow x (how x hx)).2.1, (ow x (how x hx)).2.2.1⟩)) q1a q1c (g := mkF m pc Ls (argsL.reverse ++ .ref a :: st)) rfl (hsz.trans hml.symm) (Steps.refl _) (argsL := argsL) (rest := st) (lenOf hpd hln) rfl (by show 2 * 0 + _ ≤ _; exact Nat.le_of_eq (Nat.zero_add _)) (hb hc' h1) (fun _ _ => ⟨rfl, e0, hce, hsl⟩)
  obtain ⟨L, os', q1, q2, q3, q4, q5, q6, q7, q8, q9⟩ := hpost
  exact afterCall (Q' := Q') (rm := rm) N S w' A Kp hE ow how (K v B.U.heap os' q1 q3 fun x hx => (q2 x hx).2) X' hS (e0 ▸ hgr) q2 q3 q4 q5 q6 q7 q8 q9 stp
theorem Go.callF {k : KT} (C : Ctx k l y bytes maxL ret R Z a0 EL wd wr h0 Q) {pc pc' : Nat} {i n : Nat} {a : Addr} {Cn : String} {zr : MethodName} {z : MethodName} {bz : ByteArray} {mz : Nat} {rz : Option FieldType} {rm : Room} {wr' : List Addr} {Q' : QT} {argsL : List Value} {ps : List FieldType} {rr : Option FieldType}
    (M : Con l Z EL wd z bz mz rz rm [] (.ref a :: argsL).toArray h wr' Q') (Ex : Exa Z h a Cn) (w1 : (Cond.methodLink y.cls i zr).before a0 Z = true) (wd1 : (Cond.declares zr).before a0 Z = true) (wf : ∀ (s : State) (as : Array Value), Z.Warmed39 s.vm → (Cond.interfaceMethod zr.cls zr.cls zr.name zr.desc).before as s = true) (ws : (Cond.selects Cn zr z).before a0 Z = true) (w2 : (Cond.instanceMethod z).before a0 Z = true) (wp : (Cond.publicMethod z).before a0 Z = true) (wu : (Cond.unhidden Cn zr.name zr.desc).before a0 Z = true) (wc : (Cond.castable Cn zr.cls).before a0 Z = true) (w3 : (Cond.initialized z.cls).before a0 Z = true) (w4 : (Cond.code z bz mz rz).before a0 Z = true) (hd : De bytes pc (.invokeinterface i n) 5 pc') (hpd : parseMethodDescriptor zr.desc = some ⟨ps, rr⟩) (hln : argsL.length = ps.length) (hmh : zr.cls ≠ "java/lang/invoke/MethodHandle" ∧ zr.cls ≠ "java/lang/invoke/VarHandle") (hsz : Ls.size = maxL) {st0 : List Value} (hst : st0 = argsL.reverse ++ .ref a :: st) (hfr : rm.frames + 1 ≤ R.frames) (hlo : (st.map fun v => v.category).sum + (mz + 11) + rm.locals ≤ R.locals) (hce : cells + rm.cells ≤ R.cells) (hsl : slots + rm.slots ≤ R.slots) (how : ∀ x ∈ wr', x ∈ os)
    (K : ∀ (v : Option Value) (h' : Heap) (os' : List Addr), Q' v h' os' → Keep h h' wr' → (∀ x ∈ os', h.size ≤ x ∧ x < h'.size) → Go k h' (os' ++ os) (cells + rm.cells) (slots + rm.slots) pc' Ls (v.toList ++ st)) : Go k h os cells slots pc Ls st0 := by
  obtain ⟨p, l', e, R', s, m, args, below, meth, c, Z', EL', wd', wr', Q'⟩ := k
  obtain ⟨⟨rfl, rfl, rfl, rfl, rfl, rfl, rfl, rfl⟩, hx, hc', hml, hret, hlk, hnm, hZ, hown, hEL, hE, hwr⟩ := C
  obtain ⟨h1, rfl⟩ := hd
  intro T locs vm X e0 N S w' A Kp ow
  have hZ' : Z'.Warmed39 (s.setVm vm).vm := State.Warmed39.trans (t := s) hZ S.1
  have hown' : (s.setVm vm).vm.findClass y.cls = some m.cls := (S.1.alike.findClass _ _).trans hown
  subst hst
  obtain ⟨cq, kq, q1a, q1b, q1c⟩ := isOf hZ' e0 Ex
  obtain ⟨v, vm₁, B, -, X', hS, hgr, hpost, stp⟩ := X.interfaceBackS hx hown' (mvT hZ' w1) (mvT hZ' wd1) (wf _ _ hZ') (mvT hZ' ws) (mvT hZ' w2) (mvT hZ' wp) (mvT hZ' wu) (mvT hZ' wc) hmh (conBack (p := p) (e := e) (below := below) (s := s) (args := args) M hZ' w4 w3 hfr hlo hEL A.1 (ext0 hE Kp hwr) (fun x hx => ⟨(ow x (how x hx)).1, (ow x (how x hx)).2.1, (ow x (how x hx)).2.2.1⟩)) q1a q1b q1c (g := mkF m pc Ls (argsL.reverse ++ .ref a :: st)) rfl (hsz.trans hml.symm) (Steps.refl _) (argsL := argsL) (rest := st) (lenOf hpd hln) rfl (by show 2 * 0 + _ ≤ _; exact Nat.le_of_eq (Nat.zero_add _)) (hb hc' h1) (fun _ _ => ⟨rfl, e0, hce, hsl⟩)
  obtain ⟨L, os', q1, q2, q3, q4, q5, q6, q7, q8, q9⟩ := hpost
  exact afterCall (Q' := Q') (rm := rm) N S w' A Kp hE ow how (K v B.U.heap os' q1 q3 fun x hx => (q2 x hx).2) X' hS (e0 ▸ hgr) q2 q3 q4 q5 q6 q7 q8 q9 stp
theorem Go.callP {k : KT} (C : Ctx k l y bytes maxL ret R Z a0 EL wd wr h0 Q) {pc pc' : Nat} {i : Nat} {a : Addr} {Cn : String} {z : MethodName} {bz : ByteArray} {mz : Nat} {rz : Option FieldType} {rm : Room} {wr' : List Addr} {Q' : QT} {argsL : List Value} {ps : List FieldType} {rr : Option FieldType}
    (M : Con l Z EL wd z bz mz rz rm [] (.ref a :: argsL).toArray h wr' Q') (Ex : Exa Z h a Cn) (w1 : (Cond.methodLink y.cls i z).before a0 Z = true) (w2 : (Cond.instanceMethod z).before a0 Z = true) (ws : (Cond.selects z.cls z z).before a0 Z = true) (wp : (Cond.privateMethod z).before a0 Z = true) (w3 : (Cond.initialized z.cls).before a0 Z = true) (w4 : (Cond.code z bz mz rz).before a0 Z = true) (hd : De bytes pc (.invokevirtual i) 3 pc') (hpd : parseMethodDescriptor z.desc = some ⟨ps, rr⟩) (hln : argsL.length = ps.length) (hmh : z.cls ≠ "java/lang/invoke/MethodHandle" ∧ z.cls ≠ "java/lang/invoke/VarHandle") (hsz : Ls.size = maxL) {st0 : List Value} (hst : st0 = argsL.reverse ++ .ref a :: st) (hfr : rm.frames + 1 ≤ R.frames) (hlo : (st.map fun v => v.category).sum + (mz + 11) + rm.locals ≤ R.locals) (hce : cells + rm.cells ≤ R.cells) (hsl : slots + rm.slots ≤ R.slots) (how : ∀ x ∈ wr', x ∈ os)
    (K : ∀ (v : Option Value) (h' : Heap) (os' : List Addr), Q' v h' os' → Keep h h' wr' → (∀ x ∈ os', h.size ≤ x ∧ x < h'.size) → Go k h' (os' ++ os) (cells + rm.cells) (slots + rm.slots) pc' Ls (v.toList ++ st)) : Go k h os cells slots pc Ls st0 := by
  obtain ⟨p, l', e, R', s, m, args, below, meth, c, Z', EL', wd', wr', Q'⟩ := k
  obtain ⟨⟨rfl, rfl, rfl, rfl, rfl, rfl, rfl, rfl⟩, hx, hc', hml, hret, hlk, hnm, hZ, hown, hEL, hE, hwr⟩ := C
  obtain ⟨h1, rfl⟩ := hd
  intro T locs vm X e0 N S w' A Kp ow
  have hZ' : Z'.Warmed39 (s.setVm vm).vm := State.Warmed39.trans (t := s) hZ S.1
  have hown' : (s.setVm vm).vm.findClass y.cls = some m.cls := (S.1.alike.findClass _ _).trans hown
  subst hst
  obtain ⟨cq, q1a, q1b⟩ := Ex.cell
  obtain ⟨v, vm₁, B, -, X', hS, hgr, hpost, stp⟩ := X.privateBackS hx hown' (mvT hZ' w1) (mvT hZ' w2) (mvT hZ' ws) (Cond.privateMethod_at (mvP hZ' wp (args := #[]))) (mvT hZ' w4) hmh (conBack (p := p) (e := e) (below := below) (s := s) (args := args) M hZ' w4 w3 hfr hlo hEL A.1 (ext0 hE Kp hwr) (fun x hx => ⟨(ow x (how x hx)).1, (ow x (how x hx)).2.1, (ow x (how x hx)).2.2.1⟩)) (g := mkF m pc Ls (argsL.reverse ++ .ref a :: st)) rfl (hsz.trans hml.symm) (Steps.refl _) (a := a) (by rw [e0]; exact q1a) q1b (argsL := argsL) (rest := st) (lenOf hpd hln) rfl (by show 2 * 0 + _ ≤ _; exact Nat.le_of_eq (Nat.zero_add _)) (hb hc' h1) (fun _ _ => ⟨rfl, e0, hce, hsl⟩)
  obtain ⟨L, os', q1, q2, q3, q4, q5, q6, q7, q8, q9⟩ := hpost
  exact afterCall (Q' := Q') (rm := rm) N S w' A Kp hE ow how (K v B.U.heap os' q1 q3 fun x hx => (q2 x hx).2) X' hS (e0 ▸ hgr) q2 q3 q4 q5 q6 q7 q8 q9 stp
theorem Go.ireturn {k : KT} {x x' : Int32} {t : FieldType} (C : Ctx k l y bytes maxL (some t) R Z a0 EL wd wr h0 Q) {pc pc' : Nat} (hd : De bytes pc .ireturn 1 pc') (hce : cells ≤ R.cells) (hsl : slots ≤ R.slots) (ht : t = .int ∨ t = .boolean ∨ t = .byte ∨ t = .char ∨ t = .short) (hn : nar t x = x') (os' : List Addr) (ho : ∀ x ∈ os', x ∈ os ∧ h0.size ≤ x) (q : Q (some (.int x')) h os') : Go k h os cells slots pc Ls (.int x :: st) := by
  obtain ⟨p, l', e, R', s, m, args, below, meth, c, Z', EL', wd', wr', Q'⟩ := k
  obtain ⟨⟨rfl, rfl, rfl, rfl, rfl, rfl, rfl, rfl⟩, hx, hc', hml, hret, hlk, hnm, hZ, hown, hEL, hE, hwr⟩ := C
  obtain ⟨h1, rfl⟩ := hd
  intro T locs vm X e0 N S w' A Kp ow
  have hZ' : Z'.Warmed39 (s.setVm vm).vm := State.Warmed39.trans (t := s) hZ S.1
  obtain ⟨fs, hr, g1, g2, hW, hs0⟩ := X.leave (v := (some (.int x'))) (fun h => by rw [hret] at h; cases h) hlk
  obtain ⟨r1, r2, r3⟩ := S.ended (U := T.setFrames fs) hW (Nat.le_of_eq (by rw [← e0]; rfl)) hs0
  have Ch := A.trans (CHv.at X hZ' hEL A.1)
  refine ⟨T.setFrames fs, _, ?_, g1, g2, (some (.int x')), locs, os', rfl, ?_, ?_, ?_, N, ?_, ⟨⟨_, rfl⟩, r1, r2, r3.mono hce hsl⟩, fun q => ⟨⟨_, rfl⟩, State.WarmedH.trans (w' q) hW, r3.mono hce hsl⟩⟩
  · subst hn
    rcases ht with rfl | ht
    · exact retOut X hx hret rfl (Or.inl ⟨rfl, Or.inl rfl, _, rfl⟩) (hb hc' h1) hr
    · exact retN X hx hret ht (hb hc' h1) hr
  · show Q' _ T.heap os'
    rw [e0]; exact q
  · intro x hx
    obtain ⟨z1, z2⟩ := ho x hx
    obtain ⟨o1, o2, o3, o4⟩ := ow x z1
    show Safe Z' EL' T.vm T.heap x ∧ s.heap.size ≤ x ∧ x < T.heap.size
    rw [e0]
    exact ⟨(CHv.at X hZ' hEL A.1).safe o3 o1, z2, o3⟩
  · show Keep s.heap T.heap wr'
    rw [e0]; exact Kp
  · show CHr Z' EL' s.vm s.heap T.vm T.heap
    rw [e0]; exact Ch
theorem Go.lreturn {k : KT} {x : Int64} (C : Ctx k l y bytes maxL (some .long) R Z a0 EL wd wr h0 Q) {pc pc' : Nat} (hd : De bytes pc .lreturn 1 pc') (hce : cells ≤ R.cells) (hsl : slots ≤ R.slots) (os' : List Addr) (ho : ∀ x ∈ os', x ∈ os ∧ h0.size ≤ x) (q : Q (some (.long x)) h os') : Go k h os cells slots pc Ls (.long x :: st) := by
  obtain ⟨p, l', e, R', s, m, args, below, meth, c, Z', EL', wd', wr', Q'⟩ := k
  obtain ⟨⟨rfl, rfl, rfl, rfl, rfl, rfl, rfl, rfl⟩, hx, hc', hml, hret, hlk, hnm, hZ, hown, hEL, hE, hwr⟩ := C
  obtain ⟨h1, rfl⟩ := hd
  intro T locs vm X e0 N S w' A Kp ow
  have hZ' : Z'.Warmed39 (s.setVm vm).vm := State.Warmed39.trans (t := s) hZ S.1
  obtain ⟨fs, hr, g1, g2, hW, hs0⟩ := X.leave (v := (some (.long x))) (fun h => by rw [hret] at h; cases h) hlk
  obtain ⟨r1, r2, r3⟩ := S.ended (U := T.setFrames fs) hW (Nat.le_of_eq (by rw [← e0]; rfl)) hs0
  have Ch := A.trans (CHv.at X hZ' hEL A.1)
  refine ⟨T.setFrames fs, _, ?_, g1, g2, (some (.long x)), locs, os', rfl, ?_, ?_, ?_, N, ?_, ⟨⟨_, rfl⟩, r1, r2, r3.mono hce hsl⟩, fun q => ⟨⟨_, rfl⟩, State.WarmedH.trans (w' q) hW, r3.mono hce hsl⟩⟩
  · exact retOut X hx hret rfl (Or.inr (Or.inl ⟨rfl, rfl, _, rfl⟩)) (hb hc' h1) hr
  · show Q' _ T.heap os'
    rw [e0]; exact q
  · intro x hx
    obtain ⟨z1, z2⟩ := ho x hx
    obtain ⟨o1, o2, o3, o4⟩ := ow x z1
    show Safe Z' EL' T.vm T.heap x ∧ s.heap.size ≤ x ∧ x < T.heap.size
    rw [e0]
    exact ⟨(CHv.at X hZ' hEL A.1).safe o3 o1, z2, o3⟩
  · show Keep s.heap T.heap wr'
    rw [e0]; exact Kp
  · show CHr Z' EL' s.vm s.heap T.vm T.heap
    rw [e0]; exact Ch
theorem Go.dreturn {k : KT} {x : UInt64} (C : Ctx k l y bytes maxL (some .double) R Z a0 EL wd wr h0 Q) {pc pc' : Nat} (hd : De bytes pc .dreturn 1 pc') (hce : cells ≤ R.cells) (hsl : slots ≤ R.slots) (os' : List Addr) (ho : ∀ x ∈ os', x ∈ os ∧ h0.size ≤ x) (q : Q (some (.double x)) h os') : Go k h os cells slots pc Ls (.double x :: st) := by
  obtain ⟨p, l', e, R', s, m, args, below, meth, c, Z', EL', wd', wr', Q'⟩ := k
  obtain ⟨⟨rfl, rfl, rfl, rfl, rfl, rfl, rfl, rfl⟩, hx, hc', hml, hret, hlk, hnm, hZ, hown, hEL, hE, hwr⟩ := C
  obtain ⟨h1, rfl⟩ := hd
  intro T locs vm X e0 N S w' A Kp ow
  have hZ' : Z'.Warmed39 (s.setVm vm).vm := State.Warmed39.trans (t := s) hZ S.1
  obtain ⟨fs, hr, g1, g2, hW, hs0⟩ := X.leave (v := (some (.double x))) (fun h => by rw [hret] at h; cases h) hlk
  obtain ⟨r1, r2, r3⟩ := S.ended (U := T.setFrames fs) hW (Nat.le_of_eq (by rw [← e0]; rfl)) hs0
  have Ch := A.trans (CHv.at X hZ' hEL A.1)
  refine ⟨T.setFrames fs, _, ?_, g1, g2, (some (.double x)), locs, os', rfl, ?_, ?_, ?_, N, ?_, ⟨⟨_, rfl⟩, r1, r2, r3.mono hce hsl⟩, fun q => ⟨⟨_, rfl⟩, State.WarmedH.trans (w' q) hW, r3.mono hce hsl⟩⟩
  · exact retOut X hx hret rfl (Or.inr (Or.inr (Or.inl ⟨rfl, rfl, _, rfl⟩))) (hb hc' h1) hr
  · show Q' _ T.heap os'
    rw [e0]; exact q
  · intro x hx
    obtain ⟨z1, z2⟩ := ho x hx
    obtain ⟨o1, o2, o3, o4⟩ := ow x z1
    show Safe Z' EL' T.vm T.heap x ∧ s.heap.size ≤ x ∧ x < T.heap.size
    rw [e0]
    exact ⟨(CHv.at X hZ' hEL A.1).safe o3 o1, z2, o3⟩
  · show Keep s.heap T.heap wr'
    rw [e0]; exact Kp
  · show CHr Z' EL' s.vm s.heap T.vm T.heap
    rw [e0]; exact Ch
theorem Go.areturn {k : KT} {v : Value} {t : FieldType} (C : Ctx k l y bytes maxL (some t) R Z a0 EL wd wr h0 Q) {pc pc' : Nat} (hd : De bytes pc .areturn 1 pc') (hce : cells ≤ R.cells) (hsl : slots ≤ R.slots) (ht : t.isReference = true) (hvr : v.isRef = true) (os' : List Addr) (ho : ∀ x ∈ os', x ∈ os ∧ h0.size ≤ x) (q : Q (some v) h os') : Go k h os cells slots pc Ls (v :: st) := by
  obtain ⟨p, l', e, R', s, m, args, below, meth, c, Z', EL', wd', wr', Q'⟩ := k
  obtain ⟨⟨rfl, rfl, rfl, rfl, rfl, rfl, rfl, rfl⟩, hx, hc', hml, hret, hlk, hnm, hZ, hown, hEL, hE, hwr⟩ := C
  obtain ⟨h1, rfl⟩ := hd
  intro T locs vm X e0 N S w' A Kp ow
  have hZ' : Z'.Warmed39 (s.setVm vm).vm := State.Warmed39.trans (t := s) hZ S.1
  obtain ⟨fs, hr, g1, g2, hW, hs0⟩ := X.leave (v := (some v)) (fun h => by rw [hret] at h; cases h) hlk
  obtain ⟨r1, r2, r3⟩ := S.ended (U := T.setFrames fs) hW (Nat.le_of_eq (by rw [← e0]; rfl)) hs0
  have Ch := A.trans (CHv.at X hZ' hEL A.1)
  refine ⟨T.setFrames fs, _, ?_, g1, g2, (some v), locs, os', rfl, ?_, ?_, ?_, N, ?_, ⟨⟨_, rfl⟩, r1, r2, r3.mono hce hsl⟩, fun q => ⟨⟨_, rfl⟩, State.WarmedH.trans (w' q) hW, r3.mono hce hsl⟩⟩
  · exact retOut X hx hret (by cases t <;> first | rfl | cases ht) (Or.inr (Or.inr (Or.inr (Or.inr ⟨rfl, ht, hvr⟩)))) (hb hc' h1) hr
  · show Q' _ T.heap os'
    rw [e0]; exact q
  · intro x hx
    obtain ⟨z1, z2⟩ := ho x hx
    obtain ⟨o1, o2, o3, o4⟩ := ow x z1
    show Safe Z' EL' T.vm T.heap x ∧ s.heap.size ≤ x ∧ x < T.heap.size
    rw [e0]
    exact ⟨(CHv.at X hZ' hEL A.1).safe o3 o1, z2, o3⟩
  · show Keep s.heap T.heap wr'
    rw [e0]; exact Kp
  · show CHr Z' EL' s.vm s.heap T.vm T.heap
    rw [e0]; exact Ch
theorem Go.retV {k : KT}  (C : Ctx k l y bytes maxL none R Z a0 EL wd wr h0 Q) {pc pc' : Nat} (hd : De bytes pc .return_ 1 pc') (hce : cells ≤ R.cells) (hsl : slots ≤ R.slots) (os' : List Addr) (ho : ∀ x ∈ os', x ∈ os ∧ h0.size ≤ x) (q : Q none h os') : Go k h os cells slots pc Ls (([] : List Value)) := by
  obtain ⟨p, l', e, R', s, m, args, below, meth, c, Z', EL', wd', wr', Q'⟩ := k
  obtain ⟨⟨rfl, rfl, rfl, rfl, rfl, rfl, rfl, rfl⟩, hx, hc', hml, hret, hlk, hnm, hZ, hown, hEL, hE, hwr⟩ := C
  obtain ⟨h1, rfl⟩ := hd
  intro T locs vm X e0 N S w' A Kp ow
  have hZ' : Z'.Warmed39 (s.setVm vm).vm := State.Warmed39.trans (t := s) hZ S.1
  obtain ⟨fs, hr, g1, g2, hW, hs0⟩ := X.leave (v := none) (fun _ => rfl) hlk
  obtain ⟨r1, r2, r3⟩ := S.ended (U := T.setFrames fs) hW (Nat.le_of_eq (by rw [← e0]; rfl)) hs0
  have Ch := A.trans (CHv.at X hZ' hEL A.1)
  refine ⟨T.setFrames fs, _, ?_, g1, g2, none, locs, os', rfl, ?_, ?_, ?_, N, ?_, ⟨⟨_, rfl⟩, r1, r2, r3.mono hce hsl⟩, fun q => ⟨⟨_, rfl⟩, State.WarmedH.trans (w' q) hW, r3.mono hce hsl⟩⟩
  · exact X.returnOut hx hret (hb hc' h1) hr
  · show Q' _ T.heap os'
    rw [e0]; exact q
  · intro x hx
    obtain ⟨z1, z2⟩ := ho x hx
    obtain ⟨o1, o2, o3, o4⟩ := ow x z1
    show Safe Z' EL' T.vm T.heap x ∧ s.heap.size ≤ x ∧ x < T.heap.size
    rw [e0]
    exact ⟨(CHv.at X hZ' hEL A.1).safe o3 o1, z2, o3⟩
  · show Keep s.heap T.heap wr'
    rw [e0]; exact Kp
  · show CHr Z' EL' s.vm s.heap T.vm T.heap
    rw [e0]; exact Ch
theorem Con.intro {ws : List Jvm.Cond} {as' : Array Value} {rm : Room} (hpl : plainFor y = true) (hEL : EW Z a0 EL) (hen : ∀ m, entryFrame m as' maxL = mkF m 0 Ls [])
    (G : ∀ k, Ctx k l y bytes maxL ret rm Z a0 EL wd wr h Q → Go k h wr 0 0 0 Ls []) : Con l Z EL wd y bytes maxL ret rm ws as' h wr Q := by
  refine MetFree.of_bodySF hpl hisR ?_
  intro p e s m args below meth c s₁ Bd hml hP hK
  obtain ⟨rfl, hZ, rfl, H, hE, hsf⟩ := hP
  have X0 : Stand p l e rm s m args below meth c s₁ [] 0 0 := Stand.of_body Bd
  have e0 : s₁.heap = s.heap := by rw [Bd.state]; rfl
  have G' := G ⟨p, l, e, rm, s, m, args, below, meth, c, Z, EL, wd, wr, Q⟩ ⟨⟨rfl, rfl, rfl, rfl, rfl, rfl, rfl, rfl⟩, Bd.exec, Bd.bytes, hml, Bd.returns, Bd.notSynchronized, (name_of_methodNamed Bd.named Bd.method).1, hZ, findClass_of_methodNamed Bd.named, hEL, hE, fun x hx => (hsf x hx).2.1⟩
    s₁ [] s.vm X0 e0 (Fr.nil _) ((State.WarmedH.refl s).since _) (fun _ => State.WarmedH.refl s) (CHr.refl H) (Keep.refl _ _) (fun x hx => ⟨(hsf x hx).1, (hsf x hx).2.1, (hsf x hx).2.2, Or.inl hx⟩)
  obtain ⟨s', o, g1, g2, g3, g4⟩ := G'
  exact ⟨s', o, castTop (hen m) g1, g2, g3, g4⟩
end Heapy
end Jvm.OwnGo
namespace Jvm.Pilot.@@N@@
open Jvm Jvm.ClassFile Sem Op Lib Jvm.Free Jvm.Stand Jvm.LawKit Jvm.RoadKit Jvm.OwnGo Bundle Jvm.Pilot.@@N@@.Jvm.D
abbrev own_EL : List (String × Nat) := [("java/lang/String", 7)]
theorem own_ite1 {P : Prop} [Decidable P] (q : ¬ ((if P then (1 : Int32) else 0) = 0)) : (if P then (1 : Int32) else 0) = 1 := by
  by_cases h : P
  · exact if_pos h
  · exact absurd (if_neg h) q
theorem own_shr0 (x : Int32) : x >>> ((0 : Int32) &&& 31) = x := by
  rw [show ((0 : Int32) &&& 31) = 0 from by decide]; exact Int32.shiftRight_zero
def own_b (c : Int32) : Int32 := c.toInt8.toInt32
def own_L (c : Int32) : Prop := ¬ c < 0 ∧ ¬ (255 : Int32) < c
def own_lat (cs : List Int32) : Prop := ∀ c ∈ cs, own_L c
theorem own_b_nar (c : Int32) : nar .byte (own_b c) = own_b c := by
  show (c.toInt8.toInt32).toInt8.toInt32 = c.toInt8.toInt32
  rw [Int8.toInt8_toInt32]
theorem own_nil {cs : List Int32} (hl : cs.length < 2147483648) (q : Int32.ofNat cs.length = 0) : cs = [] := by
  have : Int32.ofNat cs.length = Int32.ofNat 0 := q
  exact List.eq_nil_of_length_eq_zero ((nI_eq hl (by omega)).mp this)
theorem own_set {cs : List Int32} {c : Int32} {i n : Nat} (q : i + (n + 1) = cs.length) (hc : cs[i]? = some c) : (List.map Value.int ((cs.take i).map own_b ++ List.replicate (n + 1) 0)).set i (.int (own_b c)) = List.map Value.int ((cs.take (i + 1)).map own_b ++ List.replicate n 0) := by
  have hi : i < cs.length := by omega
  have ht : (cs.take i).length = i := by simp; omega
  rw [← List.map_set, List.set_append_right _ _ (by simp [ht]; omega), List.take_add_one, hc]
  simp [ht, List.replicate_succ, show min i cs.length = i by omega]
theorem own_L_int {x : Int32} (h : own_L x) : 0 ≤ x.toInt ∧ x.toInt ≤ 255 := by
  obtain ⟨h1, h2⟩ := h
  rw [Int32.lt_iff_toInt_lt] at h1 h2
  have e0 : (0 : Int32).toInt = 0 := rfl
  have e1 : (255 : Int32).toInt = 255 := rfl
  omega
theorem own_L_of {x : Int32} (h1 : 0 ≤ x.toInt) (h2 : x.toInt ≤ 255) : own_L x := by
  have e0 : (0 : Int32).toInt = 0 := rfl
  have e1 : (255 : Int32).toInt = 255 := rfl
  constructor <;> rw [Int32.lt_iff_toInt_lt] <;> omega
theorem own_c_nar (x : Int32) : nar .char (x.toUInt32.toUInt16.toUInt32.toInt32) = x.toUInt32.toUInt16.toUInt32.toInt32 := by
  obtain ⟨-, h1, h2⟩ := c_i2c x
  obtain ⟨g0, g1, g2⟩ := c_i2c (x.toUInt32.toUInt16.toUInt32.toInt32)
  exact Int32.toInt_inj.mp (by show (x.toUInt32.toUInt16.toUInt32.toInt32).toUInt32.toUInt16.toUInt32.toInt32.toInt = _; omega)
theorem own_nar_lat {x : Int32} (h : own_L x) : nar .char x = x := by
  obtain ⟨h1, h2⟩ := own_L_int h
  obtain ⟨g0, g1, g2⟩ := c_i2c x
  exact Int32.toInt_inj.mp (by show x.toUInt32.toUInt16.toUInt32.toInt32.toInt = _; omega)
theorem own_c8i {x z : Int32} (e : (x &&& (255 : Int32)).toUInt32.toUInt16.toUInt32.toInt32 = z) : own_L z := by
  subst e
  have a := c_mask x 255 8 (by decide) (by decide)
  have a' : (x &&& 255).toInt = x.toInt % 256 := a
  obtain ⟨g0, g1, g2⟩ := c_i2c (x &&& (255 : Int32))
  exact own_L_of (by omega) (by omega)
theorem own_c8 {x : Int64} {z : Int32} (e : ((x &&& (255 : Int64)).toInt32).toUInt32.toUInt16.toUInt32.toInt32 = z) : own_L z := by
  subst e
  have a := c_maskL x 255 8 (by decide) (by decide)
  have a' : (x &&& 255).toInt = x.toInt % 256 := a
  have b := c_l2i (x &&& 255)
  obtain ⟨g0, g1, g2⟩ := c_i2c ((x &&& (255 : Int64)).toInt32)
  have r := rng32 ((x &&& (255 : Int64)).toInt32)
  exact own_L_of (by omega) (by omega)
theorem own_lat2 {p q : Int32} (h1 : own_L p) (h2 : own_L q) : own_lat [p, q] := fun c hc => by
  simp only [List.mem_cons, List.not_mem_nil, or_false] at hc
  rcases hc with rfl | rfl
  · exact h1
  · exact h2
theorem own_b_inj {x y : Int32} (hx : own_L x) (hy : own_L y) (e : own_b x = own_b y) : x = y := by
  obtain ⟨a1, a2⟩ := own_L_int hx
  obtain ⟨b1, b2⟩ := own_L_int hy
  obtain ⟨c1, -, -⟩ := c_i2b x
  obtain ⟨d1, -, -⟩ := c_i2b y
  have e' : x.toInt8.toInt32.toInt = y.toInt8.toInt32.toInt := congrArg Int32.toInt e
  exact Int32.toInt_inj.mp (by omega)
theorem own_it0 {P : Prop} [Decidable P] (h : (if P then (1 : Int32) else 0) = 0) : ¬ P := fun q => by rw [if_pos q] at h; exact absurd h (by decide)
theorem own_it1 {P : Prop} [Decidable P] (h : ¬ ((if P then (1 : Int32) else 0) = 0)) : P := Decidable.byContradiction fun q => h (if_neg q)
def own_mk (n p q : Int32) : List Int32 := if n = 0 then [] else if n = 1 then [p] else [p, q]
theorem own_mk0 {n p q : Int32} (h : n = 0) : own_mk n p q = [] := if_pos h
theorem own_mk1 {n p q : Int32} (h : ¬ n = 0) (h1 : n = 1) : own_mk n p q = [p] := (if_neg h).trans (if_pos h1)
theorem own_mk2 {n p q : Int32} (h : ¬ n = 0) (h1 : ¬ n = 1) : own_mk n p q = [p, q] := (if_neg h).trans (if_neg h1)
abbrev own_same (n p q n' p' q' : Int32) : Prop := n = n' ∧ (n < 1 ∨ p = p') ∧ (n < 2 ∨ q = q')
theorem own_key {n n' p q p' q' : Int32} (h : own_lat [p, q]) (h' : own_lat [p', q']) (hn : n = 0 ∨ n = 1 ∨ n = 2) (hn' : n' = 0 ∨ n' = 1 ∨ n' = 2) : (List.map own_b (own_mk n p q) = List.map own_b (own_mk n' p' q')) ↔ own_same n p q n' p' q' := by
  have hp : own_L p := h p (by simp)
  have hq : own_L q := h q (by simp)
  have hp' : own_L p' := h' p' (by simp)
  have hq' : own_L q' := h' q' (by simp)
  have i1 : own_b p = own_b p' ↔ p = p' := ⟨own_b_inj hp hp', fun e => by rw [e]⟩
  have i2 : own_b q = own_b q' ↔ q = q' := ⟨own_b_inj hq hq', fun e => by rw [e]⟩
  rcases hn with rfl | rfl | rfl <;> rcases hn' with rfl | rfl | rfl <;> simp [own_mk, own_same, i1, i2, show ¬ ((1 : Int32) < 1) by decide, show (1 : Int32) < 2 by decide, show ¬ ((2 : Int32) < 1) by decide, show ¬ ((2 : Int32) < 2) by decide, show (0 : Int32) < 1 by decide, show (0 : Int32) < 2 by decide]
theorem own_m31 {x z : Int32} (e : ((x &&& (2147483647 : Int32)) % (3 : Int32)) = z) : z = 0 ∨ z = 1 ∨ z = 2 := by
  subst e
  have a := c_mask x 2147483647 31 (by decide) (by decide)
  have a' : (x &&& 2147483647).toInt = x.toInt % 2147483648 := a
  have b := (c_irem (x &&& 2147483647) 3 3 rfl).1 (by omega)
  have c : ((x &&& 2147483647) % 3).toInt = 0 ∨ ((x &&& 2147483647) % 3).toInt = 1 ∨ ((x &&& 2147483647) % 3).toInt = 2 := by omega
  rcases c with c | c | c
  · exact Or.inl (Int32.toInt_inj.mp c)
  · exact Or.inr (Or.inl (Int32.toInt_inj.mp c))
  · exact Or.inr (Or.inr (Int32.toInt_inj.mp c))
theorem own_k4 {x z : Int32} (e : (x &&& (3 : Int32)) = z) : z = 0 ∨ z = 1 ∨ z = 2 ∨ z = 3 := by
  subst e
  have a := c_mask x 3 2 (by decide) (by decide)
  have a' : (x &&& 3).toInt = x.toInt % 4 := a
  have c : (x &&& 3).toInt = 0 ∨ (x &&& 3).toInt = 1 ∨ (x &&& 3).toInt = 2 ∨ (x &&& 3).toInt = 3 := by omega
  rcases c with c | c | c | c
  · exact Or.inl (Int32.toInt_inj.mp c)
  · exact Or.inr (Or.inl (Int32.toInt_inj.mp c))
  · exact Or.inr (Or.inr (Or.inl (Int32.toInt_inj.mp c)))
  · exact Or.inr (Or.inr (Or.inr (Int32.toInt_inj.mp c)))
theorem own_k3 {z : Int32} (h : z = 0 ∨ z = 1 ∨ z = 2 ∨ z = 3) (h0 : ¬ z = 0) (h1 : ¬ z = 1) (h2 : ¬ z = 2) : z = 3 := ((h.resolve_left h0).resolve_left h1).resolve_left h2
theorem own_k0 {z : Int32} (h : z = 0) : ¬ z = 3 := by subst h; decide
theorem own_k1 {z : Int32} (h : z = 1) : ¬ z = 3 := by subst h; decide
theorem own_k2 {z : Int32} (h : z = 2) : ¬ z = 3 := by subst h; decide
abbrev y_10 : MethodName := ⟨"com/example/kapok/kapok/model/Token", "is", "(Ljava/lang/String;)Z"⟩
abbrev y_9 : MethodName := ⟨"com/example/kapok/kapok/model/Token", "<init>", "(Lcom/example/kapok/kapok/model/Token$Kind;Ljava/lang/String;)V"⟩
abbrev y_8 : MethodName := ⟨"java/lang/Record", "<init>", "()V"⟩
abbrev y_7 : MethodName := ⟨"com/example/kapok/kapok/model/TokenIsPinLaw", "mk", "(ICC)Ljava/lang/String;"⟩
abbrev y_6 : MethodName := ⟨"java/lang/String", "equals", "(Ljava/lang/Object;)Z"⟩
abbrev y_5 : MethodName := ⟨"java/lang/StringLatin1", "equals", "([B[B)Z"⟩
abbrev y_4 : MethodName := ⟨"java/lang/String", "<init>", "([C)V"⟩
abbrev y_3 : MethodName := ⟨"java/lang/String", "<init>", "([CIILjava/lang/Void;)V"⟩
abbrev y_2 : MethodName := ⟨"java/lang/StringUTF16", "coderFromArrayLen", "([BI)B"⟩
abbrev y_1 : MethodName := ⟨"java/lang/StringUTF16", "compress", "([CII)[B"⟩
abbrev y_0 : MethodName := ⟨"java/lang/StringUTF16", "compress", "([CI[BII)I"⟩
theorem d0_0 : De code 0 (.iload_n 0) 1 1 := ⟨by decide +kernel, rfl⟩
theorem d0_1 : De code 1 (.iconst 3) 1 2 := ⟨by decide +kernel, rfl⟩
theorem d0_2 : De code 2 (.iand) 1 3 := ⟨by decide +kernel, rfl⟩
theorem d0_3 : De code 3 (.istore 4) 2 5 := ⟨by decide +kernel, rfl⟩
theorem d0_5 : De code 5 (.iload 4) 2 7 := ⟨by decide +kernel, rfl⟩
theorem d0_7 : DeJ code 7 (.ifCond .ne) 10 18 := ⟨11, by decide +kernel, rfl, by decide, by decide⟩
theorem d0_10 : De code 10 (.getstatic 12) 3 13 := ⟨by decide +kernel, rfl⟩
theorem d0_13 : De code 13 (.astore 5) 2 15 := ⟨by decide +kernel, rfl⟩
theorem d0_15 : DeJ code 15 .goto 18 51 := ⟨36, by decide +kernel, rfl, by decide, by decide⟩
theorem d0_18 : De code 18 (.iload 4) 2 20 := ⟨by decide +kernel, rfl⟩
theorem d0_20 : De code 20 (.iconst 1) 1 21 := ⟨by decide +kernel, rfl⟩
theorem d0_21 : DeJ code 21 (.if_icmp .ne) 24 32 := ⟨11, by decide +kernel, rfl, by decide, by decide⟩
theorem d0_24 : De code 24 (.getstatic 18) 3 27 := ⟨by decide +kernel, rfl⟩
theorem d0_27 : De code 27 (.astore 5) 2 29 := ⟨by decide +kernel, rfl⟩
theorem d0_29 : DeJ code 29 .goto 32 51 := ⟨22, by decide +kernel, rfl, by decide, by decide⟩
theorem d0_32 : De code 32 (.iload 4) 2 34 := ⟨by decide +kernel, rfl⟩
theorem d0_34 : De code 34 (.iconst 2) 1 35 := ⟨by decide +kernel, rfl⟩
theorem d0_35 : DeJ code 35 (.if_icmp .ne) 38 46 := ⟨11, by decide +kernel, rfl, by decide, by decide⟩
theorem d0_38 : De code 38 (.getstatic 21) 3 41 := ⟨by decide +kernel, rfl⟩
theorem d0_41 : De code 41 (.astore 5) 2 43 := ⟨by decide +kernel, rfl⟩
theorem d0_43 : DeJ code 43 .goto 46 51 := ⟨8, by decide +kernel, rfl, by decide, by decide⟩
theorem d0_46 : De code 46 (.getstatic 24) 3 49 := ⟨by decide +kernel, rfl⟩
theorem d0_49 : De code 49 (.astore 5) 2 51 := ⟨by decide +kernel, rfl⟩
theorem d0_51 : De code 51 (.iload_n 3) 1 52 := ⟨by decide +kernel, rfl⟩
theorem d0_52 : De code 52 (.ldc 27) 2 54 := ⟨by decide +kernel, rfl⟩
theorem d0_54 : De code 54 (.iand) 1 55 := ⟨by decide +kernel, rfl⟩
theorem d0_55 : De code 55 (.iconst 3) 1 56 := ⟨by decide +kernel, rfl⟩
theorem d0_56 : De code 56 (.irem) 1 57 := ⟨by decide +kernel, rfl⟩
theorem d0_57 : De code 57 (.istore 6) 2 59 := ⟨by decide +kernel, rfl⟩
theorem d0_59 : De code 59 (.iload 6) 2 61 := ⟨by decide +kernel, rfl⟩
theorem d0_61 : De code 61 (.istore 7) 2 63 := ⟨by decide +kernel, rfl⟩
theorem d0_63 : De code 63 (.iload_n 3) 1 64 := ⟨by decide +kernel, rfl⟩
theorem d0_64 : De code 64 (.iconst 4) 1 65 := ⟨by decide +kernel, rfl⟩
theorem d0_65 : De code 65 (.iushr) 1 66 := ⟨by decide +kernel, rfl⟩
theorem d0_66 : De code 66 (.iconst 1) 1 67 := ⟨by decide +kernel, rfl⟩
theorem d0_67 : De code 67 (.iand) 1 68 := ⟨by decide +kernel, rfl⟩
theorem d0_68 : DeJ code 68 (.ifCond .eq) 71 81 := ⟨13, by decide +kernel, rfl, by decide, by decide⟩
theorem d0_71 : De code 71 (.iload_n 3) 1 72 := ⟨by decide +kernel, rfl⟩
theorem d0_72 : De code 72 (.iconst 5) 1 73 := ⟨by decide +kernel, rfl⟩
theorem d0_73 : De code 73 (.iushr) 1 74 := ⟨by decide +kernel, rfl⟩
theorem d0_74 : De code 74 (.ldc 27) 2 76 := ⟨by decide +kernel, rfl⟩
theorem d0_76 : De code 76 (.iand) 1 77 := ⟨by decide +kernel, rfl⟩
theorem d0_77 : De code 77 (.iconst 3) 1 78 := ⟨by decide +kernel, rfl⟩
theorem d0_78 : De code 78 (.irem) 1 79 := ⟨by decide +kernel, rfl⟩
theorem d0_79 : De code 79 (.istore 7) 2 81 := ⟨by decide +kernel, rfl⟩
theorem d0_81 : De code 81 (.iload_n 1) 1 82 := ⟨by decide +kernel, rfl⟩
theorem d0_82 : De code 82 (.sipush 255) 3 85 := ⟨by decide +kernel, rfl⟩
theorem d0_85 : De code 85 (.iand) 1 86 := ⟨by decide +kernel, rfl⟩
theorem d0_86 : De code 86 (.i2c) 1 87 := ⟨by decide +kernel, rfl⟩
theorem d0_87 : De code 87 (.istore 8) 2 89 := ⟨by decide +kernel, rfl⟩
theorem d0_89 : De code 89 (.iload_n 1) 1 90 := ⟨by decide +kernel, rfl⟩
theorem d0_90 : De code 90 (.bipush 8) 2 92 := ⟨by decide +kernel, rfl⟩
theorem d0_92 : De code 92 (.iushr) 1 93 := ⟨by decide +kernel, rfl⟩
theorem d0_93 : De code 93 (.sipush 255) 3 96 := ⟨by decide +kernel, rfl⟩
theorem d0_96 : De code 96 (.iand) 1 97 := ⟨by decide +kernel, rfl⟩
theorem d0_97 : De code 97 (.i2c) 1 98 := ⟨by decide +kernel, rfl⟩
theorem d0_98 : De code 98 (.istore 9) 2 100 := ⟨by decide +kernel, rfl⟩
theorem d0_100 : De code 100 (.iload 8) 2 102 := ⟨by decide +kernel, rfl⟩
theorem d0_102 : De code 102 (.istore 10) 2 104 := ⟨by decide +kernel, rfl⟩
theorem d0_104 : De code 104 (.iload 9) 2 106 := ⟨by decide +kernel, rfl⟩
theorem d0_106 : De code 106 (.istore 11) 2 108 := ⟨by decide +kernel, rfl⟩
theorem d0_108 : De code 108 (.iload_n 3) 1 109 := ⟨by decide +kernel, rfl⟩
theorem d0_109 : De code 109 (.bipush 8) 2 111 := ⟨by decide +kernel, rfl⟩
theorem d0_111 : De code 111 (.iushr) 1 112 := ⟨by decide +kernel, rfl⟩
theorem d0_112 : De code 112 (.iconst 1) 1 113 := ⟨by decide +kernel, rfl⟩
theorem d0_113 : De code 113 (.iand) 1 114 := ⟨by decide +kernel, rfl⟩
theorem d0_114 : DeJ code 114 (.ifCond .eq) 117 136 := ⟨22, by decide +kernel, rfl, by decide, by decide⟩
theorem d0_117 : De code 117 (.iload_n 2) 1 118 := ⟨by decide +kernel, rfl⟩
theorem d0_118 : De code 118 (.sipush 255) 3 121 := ⟨by decide +kernel, rfl⟩
theorem d0_121 : De code 121 (.iand) 1 122 := ⟨by decide +kernel, rfl⟩
theorem d0_122 : De code 122 (.i2c) 1 123 := ⟨by decide +kernel, rfl⟩
theorem d0_123 : De code 123 (.istore 10) 2 125 := ⟨by decide +kernel, rfl⟩
theorem d0_125 : De code 125 (.iload_n 2) 1 126 := ⟨by decide +kernel, rfl⟩
theorem d0_126 : De code 126 (.bipush 8) 2 128 := ⟨by decide +kernel, rfl⟩
theorem d0_128 : De code 128 (.iushr) 1 129 := ⟨by decide +kernel, rfl⟩
theorem d0_129 : De code 129 (.sipush 255) 3 132 := ⟨by decide +kernel, rfl⟩
theorem d0_132 : De code 132 (.iand) 1 133 := ⟨by decide +kernel, rfl⟩
theorem d0_133 : De code 133 (.i2c) 1 134 := ⟨by decide +kernel, rfl⟩
theorem d0_134 : De code 134 (.istore 11) 2 136 := ⟨by decide +kernel, rfl⟩
theorem d0_136 : De code 136 (.iload_n 3) 1 137 := ⟨by decide +kernel, rfl⟩
theorem d0_137 : De code 137 (.bipush 9) 2 139 := ⟨by decide +kernel, rfl⟩
theorem d0_139 : De code 139 (.iushr) 1 140 := ⟨by decide +kernel, rfl⟩
theorem d0_140 : De code 140 (.bipush 7) 2 142 := ⟨by decide +kernel, rfl⟩
theorem d0_142 : De code 142 (.iand) 1 143 := ⟨by decide +kernel, rfl⟩
theorem d0_143 : De code 143 (.bipush 7) 2 145 := ⟨by decide +kernel, rfl⟩
theorem d0_145 : DeJ code 145 (.if_icmp .ne) 148 152 := ⟨7, by decide +kernel, rfl, by decide, by decide⟩
theorem d0_148 : De code 148 (.iconst 1) 1 149 := ⟨by decide +kernel, rfl⟩
theorem d0_149 : DeJ code 149 .goto 152 153 := ⟨4, by decide +kernel, rfl, by decide, by decide⟩
theorem d0_152 : De code 152 (.iconst 0) 1 153 := ⟨by decide +kernel, rfl⟩
theorem d0_153 : De code 153 (.istore 12) 2 155 := ⟨by decide +kernel, rfl⟩
theorem d0_155 : De code 155 (.iload 6) 2 157 := ⟨by decide +kernel, rfl⟩
theorem d0_157 : De code 157 (.iload 8) 2 159 := ⟨by decide +kernel, rfl⟩
theorem d0_159 : De code 159 (.iload 9) 2 161 := ⟨by decide +kernel, rfl⟩
theorem d0_161 : De code 161 (.invokestatic 28) 3 164 := ⟨by decide +kernel, rfl⟩
theorem d0_164 : De code 164 (.astore 13) 2 166 := ⟨by decide +kernel, rfl⟩
theorem d0_166 : De code 166 (.iload 12) 2 168 := ⟨by decide +kernel, rfl⟩
theorem d0_168 : DeJ code 168 (.ifCond .eq) 171 175 := ⟨7, by decide +kernel, rfl, by decide, by decide⟩
theorem d0_171 : De code 171 (.aconst_null) 1 172 := ⟨by decide +kernel, rfl⟩
theorem d0_172 : DeJ code 172 .goto 175 184 := ⟨12, by decide +kernel, rfl, by decide, by decide⟩
theorem d0_175 : De code 175 (.iload 7) 2 177 := ⟨by decide +kernel, rfl⟩
theorem d0_177 : De code 177 (.iload 10) 2 179 := ⟨by decide +kernel, rfl⟩
theorem d0_179 : De code 179 (.iload 11) 2 181 := ⟨by decide +kernel, rfl⟩
theorem d0_181 : De code 181 (.invokestatic 28) 3 184 := ⟨by decide +kernel, rfl⟩
theorem d0_184 : De code 184 (.astore 14) 2 186 := ⟨by decide +kernel, rfl⟩
theorem d0_186 : De code 186 (.new 34) 3 189 := ⟨by decide +kernel, rfl⟩
theorem d0_189 : De code 189 (.dup) 1 190 := ⟨by decide +kernel, rfl⟩
theorem d0_190 : De code 190 (.aload 5) 2 192 := ⟨by decide +kernel, rfl⟩
theorem d0_192 : De code 192 (.aload 13) 2 194 := ⟨by decide +kernel, rfl⟩
theorem d0_194 : De code 194 (.invokespecial 36) 3 197 := ⟨by decide +kernel, rfl⟩
theorem d0_197 : De code 197 (.astore 15) 2 199 := ⟨by decide +kernel, rfl⟩
theorem d0_199 : De code 199 (.aload 15) 2 201 := ⟨by decide +kernel, rfl⟩
theorem d0_201 : De code 201 (.aload 14) 2 203 := ⟨by decide +kernel, rfl⟩
theorem d0_203 : De code 203 (.invokevirtual 39) 3 206 := ⟨by decide +kernel, rfl⟩
theorem d0_206 : De code 206 (.istore 16) 2 208 := ⟨by decide +kernel, rfl⟩
theorem d0_208 : De code 208 (.iload 4) 2 210 := ⟨by decide +kernel, rfl⟩
theorem d0_210 : De code 210 (.iconst 3) 1 211 := ⟨by decide +kernel, rfl⟩
theorem d0_211 : DeJ code 211 (.if_icmp .eq) 214 256 := ⟨45, by decide +kernel, rfl, by decide, by decide⟩
theorem d0_214 : De code 214 (.iload 12) 2 216 := ⟨by decide +kernel, rfl⟩
theorem d0_216 : DeJ code 216 (.ifCond .ne) 219 256 := ⟨40, by decide +kernel, rfl, by decide, by decide⟩
theorem d0_219 : De code 219 (.iload 6) 2 221 := ⟨by decide +kernel, rfl⟩
theorem d0_221 : De code 221 (.iload 7) 2 223 := ⟨by decide +kernel, rfl⟩
theorem d0_223 : DeJ code 223 (.if_icmp .ne) 226 256 := ⟨33, by decide +kernel, rfl, by decide, by decide⟩
theorem d0_226 : De code 226 (.iload 6) 2 228 := ⟨by decide +kernel, rfl⟩
theorem d0_228 : De code 228 (.iconst 1) 1 229 := ⟨by decide +kernel, rfl⟩
theorem d0_229 : DeJ code 229 (.if_icmp .lt) 232 239 := ⟨10, by decide +kernel, rfl, by decide, by decide⟩
theorem d0_232 : De code 232 (.iload 8) 2 234 := ⟨by decide +kernel, rfl⟩
theorem d0_234 : De code 234 (.iload 10) 2 236 := ⟨by decide +kernel, rfl⟩
theorem d0_236 : DeJ code 236 (.if_icmp .ne) 239 256 := ⟨20, by decide +kernel, rfl, by decide, by decide⟩
theorem d0_239 : De code 239 (.iload 6) 2 241 := ⟨by decide +kernel, rfl⟩
theorem d0_241 : De code 241 (.iconst 2) 1 242 := ⟨by decide +kernel, rfl⟩
theorem d0_242 : DeJ code 242 (.if_icmp .lt) 245 252 := ⟨10, by decide +kernel, rfl, by decide, by decide⟩
theorem d0_245 : De code 245 (.iload 9) 2 247 := ⟨by decide +kernel, rfl⟩
theorem d0_247 : De code 247 (.iload 11) 2 249 := ⟨by decide +kernel, rfl⟩
theorem d0_249 : DeJ code 249 (.if_icmp .ne) 252 256 := ⟨7, by decide +kernel, rfl, by decide, by decide⟩
theorem d0_252 : De code 252 (.iconst 1) 1 253 := ⟨by decide +kernel, rfl⟩
theorem d0_253 : DeJ code 253 .goto 256 257 := ⟨4, by decide +kernel, rfl, by decide, by decide⟩
theorem d0_256 : De code 256 (.iconst 0) 1 257 := ⟨by decide +kernel, rfl⟩
theorem d0_257 : De code 257 (.istore 17) 2 259 := ⟨by decide +kernel, rfl⟩
theorem d0_259 : De code 259 (.iload 16) 2 261 := ⟨by decide +kernel, rfl⟩
theorem d0_261 : De code 261 (.iload 17) 2 263 := ⟨by decide +kernel, rfl⟩
theorem d0_263 : DeJ code 263 (.if_icmp .ne) 266 270 := ⟨7, by decide +kernel, rfl, by decide, by decide⟩
theorem d0_266 : De code 266 (.iconst 1) 1 267 := ⟨by decide +kernel, rfl⟩
theorem d0_267 : DeJ code 267 .goto 270 271 := ⟨4, by decide +kernel, rfl, by decide, by decide⟩
theorem d0_271 : De code 271 (.ireturn) 1 272 := ⟨by decide +kernel, rfl⟩
theorem d1_0 : De method_2_code 0 (.iload_n 0) 1 1 := ⟨by decide +kernel, rfl⟩
theorem d1_1 : DeJ method_2_code 1 (.ifCond .ne) 4 15 := ⟨14, by decide +kernel, rfl, by decide, by decide⟩
theorem d1_4 : De method_2_code 4 (.new 7) 3 7 := ⟨by decide +kernel, rfl⟩
theorem d1_7 : De method_2_code 7 (.dup) 1 8 := ⟨by decide +kernel, rfl⟩
theorem d1_8 : De method_2_code 8 (.iconst 0) 1 9 := ⟨by decide +kernel, rfl⟩
theorem d1_9 : De method_2_code 9 (.newarray .char) 2 11 := ⟨by decide +kernel, rfl⟩
theorem d1_11 : De method_2_code 11 (.invokespecial 9) 3 14 := ⟨by decide +kernel, rfl⟩
theorem d1_14 : De method_2_code 14 (.areturn) 1 15 := ⟨by decide +kernel, rfl⟩
theorem d1_15 : De method_2_code 15 (.iload_n 0) 1 16 := ⟨by decide +kernel, rfl⟩
theorem d1_16 : De method_2_code 16 (.iconst 1) 1 17 := ⟨by decide +kernel, rfl⟩
theorem d1_17 : DeJ method_2_code 17 (.if_icmp .ne) 20 35 := ⟨18, by decide +kernel, rfl, by decide, by decide⟩
theorem d1_20 : De method_2_code 20 (.new 7) 3 23 := ⟨by decide +kernel, rfl⟩
theorem d1_23 : De method_2_code 23 (.dup) 1 24 := ⟨by decide +kernel, rfl⟩
theorem d1_24 : De method_2_code 24 (.iconst 1) 1 25 := ⟨by decide +kernel, rfl⟩
theorem d1_25 : De method_2_code 25 (.newarray .char) 2 27 := ⟨by decide +kernel, rfl⟩
theorem d1_27 : De method_2_code 27 (.dup) 1 28 := ⟨by decide +kernel, rfl⟩
theorem d1_28 : De method_2_code 28 (.iconst 0) 1 29 := ⟨by decide +kernel, rfl⟩
theorem d1_29 : De method_2_code 29 (.iload_n 1) 1 30 := ⟨by decide +kernel, rfl⟩
theorem d1_30 : De method_2_code 30 (.castore) 1 31 := ⟨by decide +kernel, rfl⟩
theorem d1_31 : De method_2_code 31 (.invokespecial 9) 3 34 := ⟨by decide +kernel, rfl⟩
theorem d1_34 : De method_2_code 34 (.areturn) 1 35 := ⟨by decide +kernel, rfl⟩
theorem d1_35 : De method_2_code 35 (.new 7) 3 38 := ⟨by decide +kernel, rfl⟩
theorem d1_38 : De method_2_code 38 (.dup) 1 39 := ⟨by decide +kernel, rfl⟩
theorem d1_39 : De method_2_code 39 (.iconst 2) 1 40 := ⟨by decide +kernel, rfl⟩
theorem d1_40 : De method_2_code 40 (.newarray .char) 2 42 := ⟨by decide +kernel, rfl⟩
theorem d1_42 : De method_2_code 42 (.dup) 1 43 := ⟨by decide +kernel, rfl⟩
theorem d1_43 : De method_2_code 43 (.iconst 0) 1 44 := ⟨by decide +kernel, rfl⟩
theorem d1_44 : De method_2_code 44 (.iload_n 1) 1 45 := ⟨by decide +kernel, rfl⟩
theorem d1_45 : De method_2_code 45 (.castore) 1 46 := ⟨by decide +kernel, rfl⟩
theorem d1_46 : De method_2_code 46 (.dup) 1 47 := ⟨by decide +kernel, rfl⟩
theorem d1_47 : De method_2_code 47 (.iconst 1) 1 48 := ⟨by decide +kernel, rfl⟩
theorem d1_48 : De method_2_code 48 (.iload_n 2) 1 49 := ⟨by decide +kernel, rfl⟩
theorem d1_49 : De method_2_code 49 (.castore) 1 50 := ⟨by decide +kernel, rfl⟩
theorem d1_50 : De method_2_code 50 (.invokespecial 9) 3 53 := ⟨by decide +kernel, rfl⟩
theorem d1_53 : De method_2_code 53 (.areturn) 1 54 := ⟨by decide +kernel, rfl⟩
theorem d2_0 : De jdk_42_method_3_code 0 (.aload_n 0) 1 1 := ⟨by decide +kernel, rfl⟩
theorem d2_1 : De jdk_42_method_3_code 1 (.aload_n 1) 1 2 := ⟨by decide +kernel, rfl⟩
theorem d2_2 : De jdk_42_method_3_code 2 (.iconst 0) 1 3 := ⟨by decide +kernel, rfl⟩
theorem d2_3 : De jdk_42_method_3_code 3 (.aload_n 1) 1 4 := ⟨by decide +kernel, rfl⟩
theorem d2_4 : De jdk_42_method_3_code 4 (.arraylength) 1 5 := ⟨by decide +kernel, rfl⟩
theorem d2_5 : De jdk_42_method_3_code 5 (.aconst_null) 1 6 := ⟨by decide +kernel, rfl⟩
theorem d2_6 : De jdk_42_method_3_code 6 (.invokespecial 27) 3 9 := ⟨by decide +kernel, rfl⟩
theorem d2_9 : De jdk_42_method_3_code 9 (.return_) 1 10 := ⟨by decide +kernel, rfl⟩
theorem d3_0 : De jdk_42_method_149_code 0 (.aload_n 0) 1 1 := ⟨by decide +kernel, rfl⟩
theorem d3_1 : De jdk_42_method_149_code 1 (.invokespecial 1) 3 4 := ⟨by decide +kernel, rfl⟩
theorem d3_4 : De jdk_42_method_149_code 4 (.iload_n 3) 1 5 := ⟨by decide +kernel, rfl⟩
theorem d3_5 : DeJ jdk_42_method_149_code 5 (.ifCond .ne) 8 27 := ⟨22, by decide +kernel, rfl, by decide, by decide⟩
theorem d3_8 : De jdk_42_method_149_code 8 (.aload_n 0) 1 9 := ⟨by decide +kernel, rfl⟩
theorem d3_9 : De jdk_42_method_149_code 9 (.ldc 7) 2 11 := ⟨by decide +kernel, rfl⟩
theorem d3_11 : De jdk_42_method_149_code 11 (.getfield 9) 3 14 := ⟨by decide +kernel, rfl⟩
theorem d3_14 : De jdk_42_method_149_code 14 (.putfield 9) 3 17 := ⟨by decide +kernel, rfl⟩
theorem d3_17 : De jdk_42_method_149_code 17 (.aload_n 0) 1 18 := ⟨by decide +kernel, rfl⟩
theorem d3_18 : De jdk_42_method_149_code 18 (.ldc 7) 2 20 := ⟨by decide +kernel, rfl⟩
theorem d3_20 : De jdk_42_method_149_code 20 (.getfield 15) 3 23 := ⟨by decide +kernel, rfl⟩
theorem d3_23 : De jdk_42_method_149_code 23 (.putfield 15) 3 26 := ⟨by decide +kernel, rfl⟩
theorem d3_26 : De jdk_42_method_149_code 26 (.return_) 1 27 := ⟨by decide +kernel, rfl⟩
theorem d3_27 : De jdk_42_method_149_code 27 (.getstatic 38) 3 30 := ⟨by decide +kernel, rfl⟩
theorem d3_30 : DeJ jdk_42_method_149_code 30 (.ifCond .eq) 33 58 := ⟨28, by decide +kernel, rfl, by decide, by decide⟩
theorem d3_33 : De jdk_42_method_149_code 33 (.aload_n 1) 1 34 := ⟨by decide +kernel, rfl⟩
theorem d3_34 : De jdk_42_method_149_code 34 (.iload_n 2) 1 35 := ⟨by decide +kernel, rfl⟩
theorem d3_35 : De jdk_42_method_149_code 35 (.iload_n 3) 1 36 := ⟨by decide +kernel, rfl⟩
theorem d3_36 : De jdk_42_method_149_code 36 (.invokestatic 177) 3 39 := ⟨by decide +kernel, rfl⟩
theorem d3_39 : De jdk_42_method_149_code 39 (.astore 5) 2 41 := ⟨by decide +kernel, rfl⟩
theorem d3_41 : De jdk_42_method_149_code 41 (.aload_n 0) 1 42 := ⟨by decide +kernel, rfl⟩
theorem d3_42 : De jdk_42_method_149_code 42 (.aload 5) 2 44 := ⟨by decide +kernel, rfl⟩
theorem d3_44 : De jdk_42_method_149_code 44 (.iload_n 3) 1 45 := ⟨by decide +kernel, rfl⟩
theorem d3_45 : De jdk_42_method_149_code 45 (.invokestatic 47) 3 48 := ⟨by decide +kernel, rfl⟩
theorem d3_48 : De jdk_42_method_149_code 48 (.putfield 15) 3 51 := ⟨by decide +kernel, rfl⟩
theorem d3_51 : De jdk_42_method_149_code 51 (.aload_n 0) 1 52 := ⟨by decide +kernel, rfl⟩
theorem d3_52 : De jdk_42_method_149_code 52 (.aload 5) 2 54 := ⟨by decide +kernel, rfl⟩
theorem d3_54 : De jdk_42_method_149_code 54 (.putfield 9) 3 57 := ⟨by decide +kernel, rfl⟩
theorem d3_57 : De jdk_42_method_149_code 57 (.return_) 1 58 := ⟨by decide +kernel, rfl⟩
theorem d5_0 : De jdk_52_method_16_code 0 (.iload_n 2) 1 1 := ⟨by decide +kernel, rfl⟩
theorem d5_1 : De jdk_52_method_16_code 1 (.newarray .byte) 2 3 := ⟨by decide +kernel, rfl⟩
theorem d5_3 : De jdk_52_method_16_code 3 (.astore_n 3) 1 4 := ⟨by decide +kernel, rfl⟩
theorem d5_4 : De jdk_52_method_16_code 4 (.aload_n 0) 1 5 := ⟨by decide +kernel, rfl⟩
theorem d5_5 : De jdk_52_method_16_code 5 (.iload_n 1) 1 6 := ⟨by decide +kernel, rfl⟩
theorem d5_6 : De jdk_52_method_16_code 6 (.aload_n 3) 1 7 := ⟨by decide +kernel, rfl⟩
theorem d5_7 : De jdk_52_method_16_code 7 (.iconst 0) 1 8 := ⟨by decide +kernel, rfl⟩
theorem d5_8 : De jdk_52_method_16_code 8 (.iload_n 2) 1 9 := ⟨by decide +kernel, rfl⟩
theorem d5_9 : De jdk_52_method_16_code 9 (.invokestatic 115) 3 12 := ⟨by decide +kernel, rfl⟩
theorem d5_12 : De jdk_52_method_16_code 12 (.istore 4) 2 14 := ⟨by decide +kernel, rfl⟩
theorem d5_14 : De jdk_52_method_16_code 14 (.iload 4) 2 16 := ⟨by decide +kernel, rfl⟩
theorem d5_16 : De jdk_52_method_16_code 16 (.iload_n 2) 1 17 := ⟨by decide +kernel, rfl⟩
theorem d5_17 : DeJ jdk_52_method_16_code 17 (.if_icmp .eq) 20 57 := ⟨40, by decide +kernel, rfl, by decide, by decide⟩
theorem d5_57 : De jdk_52_method_16_code 57 (.aload_n 3) 1 58 := ⟨by decide +kernel, rfl⟩
theorem d5_58 : De jdk_52_method_16_code 58 (.areturn) 1 59 := ⟨by decide +kernel, rfl⟩
theorem d6_0 : De jdk_52_method_21_code 0 (.iconst 0) 1 1 := ⟨by decide +kernel, rfl⟩
theorem d6_1 : De jdk_52_method_21_code 1 (.istore 5) 2 3 := ⟨by decide +kernel, rfl⟩
theorem d6_3 : De jdk_52_method_21_code 3 (.iload 5) 2 5 := ⟨by decide +kernel, rfl⟩
theorem d6_5 : De jdk_52_method_21_code 5 (.iload 4) 2 7 := ⟨by decide +kernel, rfl⟩
theorem d6_7 : DeJ jdk_52_method_21_code 7 (.if_icmp .ge) 10 44 := ⟨37, by decide +kernel, rfl, by decide, by decide⟩
theorem d6_10 : De jdk_52_method_21_code 10 (.aload_n 0) 1 11 := ⟨by decide +kernel, rfl⟩
theorem d6_11 : De jdk_52_method_21_code 11 (.iload_n 1) 1 12 := ⟨by decide +kernel, rfl⟩
theorem d6_12 : De jdk_52_method_21_code 12 (.caload) 1 13 := ⟨by decide +kernel, rfl⟩
theorem d6_13 : De jdk_52_method_21_code 13 (.istore 6) 2 15 := ⟨by decide +kernel, rfl⟩
theorem d6_15 : De jdk_52_method_21_code 15 (.iload 6) 2 17 := ⟨by decide +kernel, rfl⟩
theorem d6_17 : De jdk_52_method_21_code 17 (.sipush 255) 3 20 := ⟨by decide +kernel, rfl⟩
theorem d6_20 : DeJ jdk_52_method_21_code 20 (.if_icmp .le) 23 26 := ⟨6, by decide +kernel, rfl, by decide, by decide⟩
theorem d6_26 : De jdk_52_method_21_code 26 (.aload_n 2) 1 27 := ⟨by decide +kernel, rfl⟩
theorem d6_27 : De jdk_52_method_21_code 27 (.iload_n 3) 1 28 := ⟨by decide +kernel, rfl⟩
theorem d6_28 : De jdk_52_method_21_code 28 (.iload 6) 2 30 := ⟨by decide +kernel, rfl⟩
theorem d6_30 : De jdk_52_method_21_code 30 (.i2b) 1 31 := ⟨by decide +kernel, rfl⟩
theorem d6_31 : De jdk_52_method_21_code 31 (.bastore) 1 32 := ⟨by decide +kernel, rfl⟩
theorem d6_32 : De jdk_52_method_21_code 32 (.iinc 1 1) 3 35 := ⟨by decide +kernel, rfl⟩
theorem d6_35 : De jdk_52_method_21_code 35 (.iinc 3 1) 3 38 := ⟨by decide +kernel, rfl⟩
theorem d6_38 : De jdk_52_method_21_code 38 (.iinc 5 1) 3 41 := ⟨by decide +kernel, rfl⟩
theorem d6_41 : DeJ jdk_52_method_21_code 41 .goto 44 3 := ⟨(-38), by decide +kernel, rfl, by decide, by decide⟩
theorem d6_44 : De jdk_52_method_21_code 44 (.iload 4) 2 46 := ⟨by decide +kernel, rfl⟩
theorem d6_46 : De jdk_52_method_21_code 46 (.ireturn) 1 47 := ⟨by decide +kernel, rfl⟩
theorem d7_0 : De jdk_52_method_15_code 0 (.iload_n 1) 1 1 := ⟨by decide +kernel, rfl⟩
theorem d7_1 : De jdk_52_method_15_code 1 (.aload_n 0) 1 2 := ⟨by decide +kernel, rfl⟩
theorem d7_2 : De jdk_52_method_15_code 2 (.arraylength) 1 3 := ⟨by decide +kernel, rfl⟩
theorem d7_3 : De jdk_52_method_15_code 3 (.isub) 1 4 := ⟨by decide +kernel, rfl⟩
theorem d7_4 : De jdk_52_method_15_code 4 (.bipush 31) 2 6 := ⟨by decide +kernel, rfl⟩
theorem d7_6 : De jdk_52_method_15_code 6 (.iushr) 1 7 := ⟨by decide +kernel, rfl⟩
theorem d7_7 : De jdk_52_method_15_code 7 (.i2b) 1 8 := ⟨by decide +kernel, rfl⟩
theorem d7_8 : De jdk_52_method_15_code 8 (.ireturn) 1 9 := ⟨by decide +kernel, rfl⟩
theorem d8_0 : De prog_5_method_1_code 0 (.aload_n 0) 1 1 := ⟨by decide +kernel, rfl⟩
theorem d8_1 : De prog_5_method_1_code 1 (.invokespecial 1) 3 4 := ⟨by decide +kernel, rfl⟩
theorem d8_4 : De prog_5_method_1_code 4 (.aload_n 0) 1 5 := ⟨by decide +kernel, rfl⟩
theorem d8_5 : De prog_5_method_1_code 5 (.aload_n 1) 1 6 := ⟨by decide +kernel, rfl⟩
theorem d8_6 : De prog_5_method_1_code 6 (.putfield 7) 3 9 := ⟨by decide +kernel, rfl⟩
theorem d8_9 : De prog_5_method_1_code 9 (.aload_n 0) 1 10 := ⟨by decide +kernel, rfl⟩
theorem d8_10 : De prog_5_method_1_code 10 (.aload_n 2) 1 11 := ⟨by decide +kernel, rfl⟩
theorem d8_11 : De prog_5_method_1_code 11 (.putfield 13) 3 14 := ⟨by decide +kernel, rfl⟩
theorem d8_14 : De prog_5_method_1_code 14 (.return_) 1 15 := ⟨by decide +kernel, rfl⟩
theorem d9_0 : De jdk_30_method_1_code 0 (.aload_n 0) 1 1 := ⟨by decide +kernel, rfl⟩
theorem d9_1 : De jdk_30_method_1_code 1 (.invokespecial 1) 3 4 := ⟨by decide +kernel, rfl⟩
theorem d9_4 : De jdk_30_method_1_code 4 (.return_) 1 5 := ⟨by decide +kernel, rfl⟩
theorem d10_0 : De prog_5_method_2_code 0 (.aload_n 0) 1 1 := ⟨by decide +kernel, rfl⟩
theorem d10_1 : De prog_5_method_2_code 1 (.getfield 7) 3 4 := ⟨by decide +kernel, rfl⟩
theorem d10_4 : De prog_5_method_2_code 4 (.getstatic 17) 3 7 := ⟨by decide +kernel, rfl⟩
theorem d10_7 : DeJ prog_5_method_2_code 7 (.if_acmp .eq) 10 25 := ⟨18, by decide +kernel, rfl, by decide, by decide⟩
theorem d10_10 : De prog_5_method_2_code 10 (.aload_n 0) 1 11 := ⟨by decide +kernel, rfl⟩
theorem d10_11 : De prog_5_method_2_code 11 (.getfield 13) 3 14 := ⟨by decide +kernel, rfl⟩
theorem d10_14 : De prog_5_method_2_code 14 (.aload_n 1) 1 15 := ⟨by decide +kernel, rfl⟩
theorem d10_15 : De prog_5_method_2_code 15 (.invokevirtual 22) 3 18 := ⟨by decide +kernel, rfl⟩
theorem d10_18 : DeJ prog_5_method_2_code 18 (.ifCond .eq) 21 25 := ⟨7, by decide +kernel, rfl, by decide, by decide⟩
theorem d10_21 : De prog_5_method_2_code 21 (.iconst 1) 1 22 := ⟨by decide +kernel, rfl⟩
theorem d10_22 : DeJ prog_5_method_2_code 22 .goto 25 26 := ⟨4, by decide +kernel, rfl, by decide, by decide⟩
theorem d10_25 : De prog_5_method_2_code 25 (.iconst 0) 1 26 := ⟨by decide +kernel, rfl⟩
theorem d10_26 : De prog_5_method_2_code 26 (.ireturn) 1 27 := ⟨by decide +kernel, rfl⟩
theorem d11_0 : De jdk_42_method_66_code 0 (.aload_n 0) 1 1 := ⟨by decide +kernel, rfl⟩
theorem d11_1 : De jdk_42_method_66_code 1 (.aload_n 1) 1 2 := ⟨by decide +kernel, rfl⟩
theorem d11_2 : DeJ jdk_42_method_66_code 2 (.if_acmp .ne) 5 7 := ⟨5, by decide +kernel, rfl, by decide, by decide⟩
theorem d11_5 : De jdk_42_method_66_code 5 (.iconst 1) 1 6 := ⟨by decide +kernel, rfl⟩
theorem d11_6 : De jdk_42_method_66_code 6 (.ireturn) 1 7 := ⟨by decide +kernel, rfl⟩
theorem d11_7 : De jdk_42_method_66_code 7 (.aload_n 1) 1 8 := ⟨by decide +kernel, rfl⟩
theorem d11_8 : De jdk_42_method_66_code 8 (.instanceof 10) 3 11 := ⟨by decide +kernel, rfl⟩
theorem d11_11 : DeJ jdk_42_method_66_code 11 (.ifCond .eq) 14 54 := ⟨43, by decide +kernel, rfl, by decide, by decide⟩
theorem d11_14 : De jdk_42_method_66_code 14 (.aload_n 1) 1 15 := ⟨by decide +kernel, rfl⟩
theorem d11_15 : De jdk_42_method_66_code 15 (.checkcast 10) 3 18 := ⟨by decide +kernel, rfl⟩
theorem d11_18 : De jdk_42_method_66_code 18 (.astore_n 2) 1 19 := ⟨by decide +kernel, rfl⟩
theorem d11_19 : De jdk_42_method_66_code 19 (.getstatic 38) 3 22 := ⟨by decide +kernel, rfl⟩
theorem d11_22 : DeJ jdk_42_method_66_code 22 (.ifCond .eq) 25 36 := ⟨14, by decide +kernel, rfl, by decide, by decide⟩
theorem d11_25 : De jdk_42_method_66_code 25 (.aload_n 0) 1 26 := ⟨by decide +kernel, rfl⟩
theorem d11_26 : De jdk_42_method_66_code 26 (.getfield 15) 3 29 := ⟨by decide +kernel, rfl⟩
theorem d11_29 : De jdk_42_method_66_code 29 (.aload_n 2) 1 30 := ⟨by decide +kernel, rfl⟩
theorem d11_30 : De jdk_42_method_66_code 30 (.getfield 15) 3 33 := ⟨by decide +kernel, rfl⟩
theorem d11_33 : DeJ jdk_42_method_66_code 33 (.if_icmp .ne) 36 54 := ⟨21, by decide +kernel, rfl, by decide, by decide⟩
theorem d11_36 : De jdk_42_method_66_code 36 (.aload_n 0) 1 37 := ⟨by decide +kernel, rfl⟩
theorem d11_37 : De jdk_42_method_66_code 37 (.getfield 9) 3 40 := ⟨by decide +kernel, rfl⟩
theorem d11_40 : De jdk_42_method_66_code 40 (.aload_n 2) 1 41 := ⟨by decide +kernel, rfl⟩
theorem d11_41 : De jdk_42_method_66_code 41 (.getfield 9) 3 44 := ⟨by decide +kernel, rfl⟩
theorem d11_44 : De jdk_42_method_66_code 44 (.invokestatic 541) 3 47 := ⟨by decide +kernel, rfl⟩
theorem d11_47 : DeJ jdk_42_method_66_code 47 (.ifCond .eq) 50 54 := ⟨7, by decide +kernel, rfl, by decide, by decide⟩
theorem d11_50 : De jdk_42_method_66_code 50 (.iconst 1) 1 51 := ⟨by decide +kernel, rfl⟩
theorem d11_51 : DeJ jdk_42_method_66_code 51 .goto 54 55 := ⟨4, by decide +kernel, rfl, by decide, by decide⟩
theorem d11_54 : De jdk_42_method_66_code 54 (.iconst 0) 1 55 := ⟨by decide +kernel, rfl⟩
theorem d11_55 : De jdk_42_method_66_code 55 (.ireturn) 1 56 := ⟨by decide +kernel, rfl⟩
theorem d12_0 : De jdk_43_method_13_code 0 (.aload_n 0) 1 1 := ⟨by decide +kernel, rfl⟩
theorem d12_1 : De jdk_43_method_13_code 1 (.arraylength) 1 2 := ⟨by decide +kernel, rfl⟩
theorem d12_2 : De jdk_43_method_13_code 2 (.aload_n 1) 1 3 := ⟨by decide +kernel, rfl⟩
theorem d12_3 : De jdk_43_method_13_code 3 (.arraylength) 1 4 := ⟨by decide +kernel, rfl⟩
theorem d12_4 : DeJ jdk_43_method_13_code 4 (.if_icmp .ne) 7 34 := ⟨30, by decide +kernel, rfl, by decide, by decide⟩
theorem d12_7 : De jdk_43_method_13_code 7 (.iconst 0) 1 8 := ⟨by decide +kernel, rfl⟩
theorem d12_8 : De jdk_43_method_13_code 8 (.istore_n 2) 1 9 := ⟨by decide +kernel, rfl⟩
theorem d12_9 : De jdk_43_method_13_code 9 (.iload_n 2) 1 10 := ⟨by decide +kernel, rfl⟩
theorem d12_10 : De jdk_43_method_13_code 10 (.aload_n 0) 1 11 := ⟨by decide +kernel, rfl⟩
theorem d12_11 : De jdk_43_method_13_code 11 (.arraylength) 1 12 := ⟨by decide +kernel, rfl⟩
theorem d12_12 : DeJ jdk_43_method_13_code 12 (.if_icmp .ge) 15 32 := ⟨20, by decide +kernel, rfl, by decide, by decide⟩
theorem d12_15 : De jdk_43_method_13_code 15 (.aload_n 0) 1 16 := ⟨by decide +kernel, rfl⟩
theorem d12_16 : De jdk_43_method_13_code 16 (.iload_n 2) 1 17 := ⟨by decide +kernel, rfl⟩
theorem d12_17 : De jdk_43_method_13_code 17 (.baload) 1 18 := ⟨by decide +kernel, rfl⟩
theorem d12_18 : De jdk_43_method_13_code 18 (.aload_n 1) 1 19 := ⟨by decide +kernel, rfl⟩
theorem d12_19 : De jdk_43_method_13_code 19 (.iload_n 2) 1 20 := ⟨by decide +kernel, rfl⟩
theorem d12_20 : De jdk_43_method_13_code 20 (.baload) 1 21 := ⟨by decide +kernel, rfl⟩
theorem d12_21 : DeJ jdk_43_method_13_code 21 (.if_icmp .eq) 24 26 := ⟨5, by decide +kernel, rfl, by decide, by decide⟩
theorem d12_24 : De jdk_43_method_13_code 24 (.iconst 0) 1 25 := ⟨by decide +kernel, rfl⟩
theorem d12_25 : De jdk_43_method_13_code 25 (.ireturn) 1 26 := ⟨by decide +kernel, rfl⟩
theorem d12_26 : De jdk_43_method_13_code 26 (.iinc 2 1) 3 29 := ⟨by decide +kernel, rfl⟩
theorem d12_29 : DeJ jdk_43_method_13_code 29 .goto 32 9 := ⟨(-20), by decide +kernel, rfl, by decide, by decide⟩
theorem d12_32 : De jdk_43_method_13_code 32 (.iconst 1) 1 33 := ⟨by decide +kernel, rfl⟩
theorem d12_33 : De jdk_43_method_13_code 33 (.ireturn) 1 34 := ⟨by decide +kernel, rfl⟩
theorem d12_34 : De jdk_43_method_13_code 34 (.iconst 0) 1 35 := ⟨by decide +kernel, rfl⟩
theorem d12_35 : De jdk_43_method_13_code 35 (.ireturn) 1 36 := ⟨by decide +kernel, rfl⟩
theorem pd_0 : parseMethodDescriptor "([CI[BII)I" = some ⟨[(.array .char), .int, (.array .byte), .int, .int], some .int⟩ := by decide +kernel
theorem pd_1 : parseMethodDescriptor "([CII)[B" = some ⟨[(.array .char), .int, .int], some (.array .byte)⟩ := by decide +kernel
theorem pd_2 : parseMethodDescriptor "([BI)B" = some ⟨[(.array .byte), .int], some .byte⟩ := by decide +kernel
theorem pd_3 : parseMethodDescriptor "([CIILjava/lang/Void;)V" = some ⟨[(.array .char), .int, .int, (.object "java/lang/Void")], none⟩ := by decide +kernel
theorem pd_4 : parseMethodDescriptor "([B[B)Z" = some ⟨[(.array .byte), (.array .byte)], some .boolean⟩ := by decide +kernel
theorem pd_5 : parseMethodDescriptor "([C)V" = some ⟨[(.array .char)], none⟩ := by decide +kernel
theorem pd_6 : parseMethodDescriptor "()V" = some ⟨[], none⟩ := by decide +kernel
theorem pd_7 : parseMethodDescriptor "(Ljava/lang/Object;)Z" = some ⟨[(.object "java/lang/Object")], some .boolean⟩ := by decide +kernel
theorem pd_8 : parseMethodDescriptor "(ICC)Ljava/lang/String;" = some ⟨[.int, .char, .char], some (.object "java/lang/String")⟩ := by decide +kernel
theorem pd_9 : parseMethodDescriptor "(Lcom/example/kapok/kapok/model/Token$Kind;Ljava/lang/String;)V" = some ⟨[(.object "com/example/kapok/kapok/model/Token$Kind"), (.object "java/lang/String")], none⟩ := by decide +kernel
theorem pd_10 : parseMethodDescriptor "(Ljava/lang/String;)Z" = some ⟨[(.object "java/lang/String")], some .boolean⟩ := by decide +kernel
def W0 (Z : State) (a0 : Array Value) : Prop := (∀ d ∈ tables_1, d.before a0 Z = true) ∧ (∀ d ∈ jdkStatics_1, d.before a0 Z = true)
theorem w_0 {Z : State} {a0 : Array Value} (hW : W0 Z a0) : (Jvm.Cond.fieldLink "com/example/kapok/kapok/model/TokenIsPinLaw" (12 : Nat) "com/example/kapok/kapok/model/Token$Kind" "WORD" "Lcom/example/kapok/kapok/model/Token$Kind;").before a0 Z = true := hW.1 _ (List.mem_of_getElem? (i := 0) rfl)
theorem w_1 {Z : State} {a0 : Array Value} (hW : W0 Z a0) : (Jvm.Cond.initialized "com/example/kapok/kapok/model/Token$Kind").before a0 Z = true := hW.1 _ (List.mem_of_getElem? (i := 1) rfl)
theorem w_2 {Z : State} {a0 : Array Value} (hW : W0 Z a0) : (Jvm.Cond.laysStatic "com/example/kapok/kapok/model/Token$Kind" "WORD" "Lcom/example/kapok/kapok/model/Token$Kind;").before a0 Z = true := hW.1 _ (List.mem_of_getElem? (i := 2) rfl)
theorem w_3 {Z : State} {a0 : Array Value} (hW : W0 Z a0) : (Jvm.Cond.constant "com/example/kapok/kapok/model/TokenIsPinLaw" (27 : Nat) (2147483647 : Int32)).before a0 Z = true := hW.1 _ (List.mem_of_getElem? (i := 3) rfl)
theorem w_4 {Z : State} {a0 : Array Value} (hW : W0 Z a0) : (Jvm.Cond.methodLink "com/example/kapok/kapok/model/TokenIsPinLaw" (28 : Nat) ({ cls := "com/example/kapok/kapok/model/TokenIsPinLaw", name := "mk", desc := "(ICC)Ljava/lang/String;" } : Jvm.MethodName)).before a0 Z = true := hW.1 _ (List.mem_of_getElem? (i := 4) rfl)
theorem w_5 {Z : State} {a0 : Array Value} (hW : W0 Z a0) : (Jvm.Cond.static ({ cls := "com/example/kapok/kapok/model/TokenIsPinLaw", name := "mk", desc := "(ICC)Ljava/lang/String;" } : Jvm.MethodName)).before a0 Z = true := hW.1 _ (List.mem_of_getElem? (i := 5) rfl)
theorem w_6 {Z : State} {a0 : Array Value} (hW : W0 Z a0) : (Jvm.Cond.initialized "com/example/kapok/kapok/model/TokenIsPinLaw").before a0 Z = true := hW.1 _ (List.mem_of_getElem? (i := 6) rfl)
theorem w_7 {Z : State} {a0 : Array Value} (hW : W0 Z a0) : (Jvm.Cond.code ({ cls := "com/example/kapok/kapok/model/TokenIsPinLaw", name := "mk", desc := "(ICC)Ljava/lang/String;" } : Jvm.MethodName) method_2_code (3 : Nat) (Option.some (Jvm.ClassFile.FieldType.object "java/lang/String"))).before a0 Z = true := hW.1 _ (List.mem_of_getElem? (i := 7) rfl)
theorem w_8 {Z : State} {a0 : Array Value} (hW : W0 Z a0) : (Jvm.Cond.classLink "com/example/kapok/kapok/model/TokenIsPinLaw" (7 : Nat) "java/lang/String").before a0 Z = true := hW.1 _ (List.mem_of_getElem? (i := 8) rfl)
theorem w_9 {Z : State} {a0 : Array Value} (hW : W0 Z a0) : (Jvm.Cond.instantiable "java/lang/String" (4 : Nat)).before a0 Z = true := hW.1 _ (List.mem_of_getElem? (i := 9) rfl)
theorem w_10 {Z : State} {a0 : Array Value} (hW : W0 Z a0) : (Jvm.Cond.initialized "java/lang/String").before a0 Z = true := hW.1 _ (List.mem_of_getElem? (i := 10) rfl)
theorem w_11 {Z : State} {a0 : Array Value} (hW : W0 Z a0) : (Jvm.Cond.arrayClass Jvm.ClassFile.FieldType.char).before a0 Z = true := hW.1 _ (List.mem_of_getElem? (i := 11) rfl)
theorem w_12 {Z : State} {a0 : Array Value} (hW : W0 Z a0) : (Jvm.Cond.methodLink "com/example/kapok/kapok/model/TokenIsPinLaw" (9 : Nat) ({ cls := "java/lang/String", name := "<init>", desc := "([C)V" } : Jvm.MethodName)).before a0 Z = true := hW.1 _ (List.mem_of_getElem? (i := 12) rfl)
theorem w_13 {Z : State} {a0 : Array Value} (hW : W0 Z a0) : (Jvm.Cond.instanceMethod ({ cls := "java/lang/String", name := "<init>", desc := "([C)V" } : Jvm.MethodName)).before a0 Z = true := hW.1 _ (List.mem_of_getElem? (i := 13) rfl)
theorem w_14 {Z : State} {a0 : Array Value} (hW : W0 Z a0) : (Jvm.Cond.code ({ cls := "java/lang/String", name := "<init>", desc := "([C)V" } : Jvm.MethodName) jdk_42_method_3_code (2 : Nat) (Option.none : Option Jvm.ClassFile.FieldType)).before a0 Z = true := hW.1 _ (List.mem_of_getElem? (i := 14) rfl)
theorem w_15 {Z : State} {a0 : Array Value} (hW : W0 Z a0) : (Jvm.Cond.methodLink "java/lang/String" (27 : Nat) ({ cls := "java/lang/String", name := "<init>", desc := "([CIILjava/lang/Void;)V" } : Jvm.MethodName)).before a0 Z = true := hW.1 _ (List.mem_of_getElem? (i := 15) rfl)
theorem w_16 {Z : State} {a0 : Array Value} (hW : W0 Z a0) : (Jvm.Cond.instanceMethod ({ cls := "java/lang/String", name := "<init>", desc := "([CIILjava/lang/Void;)V" } : Jvm.MethodName)).before a0 Z = true := hW.1 _ (List.mem_of_getElem? (i := 16) rfl)
theorem w_18 {Z : State} {a0 : Array Value} (hW : W0 Z a0) : (Jvm.Cond.code ({ cls := "java/lang/String", name := "<init>", desc := "([CIILjava/lang/Void;)V" } : Jvm.MethodName) jdk_42_method_149_code (6 : Nat) (Option.none : Option Jvm.ClassFile.FieldType)).before a0 Z = true := hW.1 _ (List.mem_of_getElem? (i := 18) rfl)
theorem w_19 {Z : State} {a0 : Array Value} (hW : W0 Z a0) : (Jvm.Cond.methodLink "java/lang/String" (1 : Nat) ({ cls := "java/lang/Object", name := "<init>", desc := "()V" } : Jvm.MethodName)).before a0 Z = true := hW.1 _ (List.mem_of_getElem? (i := 19) rfl)
theorem w_20 {Z : State} {a0 : Array Value} (hW : W0 Z a0) : (Jvm.Cond.instanceMethod ({ cls := "java/lang/Object", name := "<init>", desc := "()V" } : Jvm.MethodName)).before a0 Z = true := hW.1 _ (List.mem_of_getElem? (i := 20) rfl)
theorem w_21 {Z : State} {a0 : Array Value} (hW : W0 Z a0) : (Jvm.Cond.code ({ cls := "java/lang/Object", name := "<init>", desc := "()V" } : Jvm.MethodName) object_method_1_code (1 : Nat) (Option.none : Option Jvm.ClassFile.FieldType)).before a0 Z = true := hW.1 _ (List.mem_of_getElem? (i := 21) rfl)
theorem w_22 {Z : State} {a0 : Array Value} (hW : W0 Z a0) : (Jvm.Cond.fieldLink "java/lang/String" (38 : Nat) "java/lang/String" "COMPACT_STRINGS" "Z").before a0 Z = true := hW.1 _ (List.mem_of_getElem? (i := 22) rfl)
theorem w_23 {Z : State} {a0 : Array Value} (hW : W0 Z a0) : (Jvm.Cond.methodLink "java/lang/String" (177 : Nat) ({ cls := "java/lang/StringUTF16", name := "compress", desc := "([CII)[B" } : Jvm.MethodName)).before a0 Z = true := hW.1 _ (List.mem_of_getElem? (i := 23) rfl)
theorem w_24 {Z : State} {a0 : Array Value} (hW : W0 Z a0) : (Jvm.Cond.static ({ cls := "java/lang/StringUTF16", name := "compress", desc := "([CII)[B" } : Jvm.MethodName)).before a0 Z = true := hW.1 _ (List.mem_of_getElem? (i := 24) rfl)
theorem w_25 {Z : State} {a0 : Array Value} (hW : W0 Z a0) : (Jvm.Cond.initialized "java/lang/StringUTF16").before a0 Z = true := hW.1 _ (List.mem_of_getElem? (i := 25) rfl)
theorem w_26 {Z : State} {a0 : Array Value} (hW : W0 Z a0) : (Jvm.Cond.code ({ cls := "java/lang/StringUTF16", name := "compress", desc := "([CII)[B" } : Jvm.MethodName) jdk_52_method_16_code (6 : Nat) (Option.some (Jvm.ClassFile.FieldType.array Jvm.ClassFile.FieldType.byte))).before a0 Z = true := hW.1 _ (List.mem_of_getElem? (i := 26) rfl)
theorem w_27 {Z : State} {a0 : Array Value} (hW : W0 Z a0) : (Jvm.Cond.arrayClass Jvm.ClassFile.FieldType.byte).before a0 Z = true := hW.1 _ (List.mem_of_getElem? (i := 27) rfl)
theorem w_28 {Z : State} {a0 : Array Value} (hW : W0 Z a0) : (Jvm.Cond.methodLink "java/lang/StringUTF16" (115 : Nat) ({ cls := "java/lang/StringUTF16", name := "compress", desc := "([CI[BII)I" } : Jvm.MethodName)).before a0 Z = true := hW.1 _ (List.mem_of_getElem? (i := 28) rfl)
theorem w_29 {Z : State} {a0 : Array Value} (hW : W0 Z a0) : (Jvm.Cond.static ({ cls := "java/lang/StringUTF16", name := "compress", desc := "([CI[BII)I" } : Jvm.MethodName)).before a0 Z = true := hW.1 _ (List.mem_of_getElem? (i := 29) rfl)
theorem w_30 {Z : State} {a0 : Array Value} (hW : W0 Z a0) : (Jvm.Cond.code ({ cls := "java/lang/StringUTF16", name := "compress", desc := "([CI[BII)I" } : Jvm.MethodName) jdk_52_method_21_code (7 : Nat) (Option.some Jvm.ClassFile.FieldType.int)).before a0 Z = true := hW.1 _ (List.mem_of_getElem? (i := 30) rfl)
theorem w_31 {Z : State} {a0 : Array Value} (hW : W0 Z a0) : (Jvm.Cond.methodLink "java/lang/String" (47 : Nat) ({ cls := "java/lang/StringUTF16", name := "coderFromArrayLen", desc := "([BI)B" } : Jvm.MethodName)).before a0 Z = true := hW.1 _ (List.mem_of_getElem? (i := 31) rfl)
theorem w_32 {Z : State} {a0 : Array Value} (hW : W0 Z a0) : (Jvm.Cond.static ({ cls := "java/lang/StringUTF16", name := "coderFromArrayLen", desc := "([BI)B" } : Jvm.MethodName)).before a0 Z = true := hW.1 _ (List.mem_of_getElem? (i := 32) rfl)
theorem w_33 {Z : State} {a0 : Array Value} (hW : W0 Z a0) : (Jvm.Cond.code ({ cls := "java/lang/StringUTF16", name := "coderFromArrayLen", desc := "([BI)B" } : Jvm.MethodName) jdk_52_method_15_code (2 : Nat) (Option.some Jvm.ClassFile.FieldType.byte)).before a0 Z = true := hW.1 _ (List.mem_of_getElem? (i := 33) rfl)
theorem w_34 {Z : State} {a0 : Array Value} (hW : W0 Z a0) : (Jvm.Cond.fieldLink "java/lang/String" (15 : Nat) "java/lang/String" "coder" "B").before a0 Z = true := hW.1 _ (List.mem_of_getElem? (i := 34) rfl)
theorem w_35 {Z : State} {a0 : Array Value} (hW : W0 Z a0) : (Jvm.Cond.laysFinal "java/lang/String" "java/lang/String" "coder" "B").before a0 Z = true := hW.1 _ (List.mem_of_getElem? (i := 35) rfl)
theorem w_36 {Z : State} {a0 : Array Value} (hW : W0 Z a0) : (Jvm.Cond.fieldLink "java/lang/String" (9 : Nat) "java/lang/String" "value" "[B").before a0 Z = true := hW.1 _ (List.mem_of_getElem? (i := 36) rfl)
theorem w_37 {Z : State} {a0 : Array Value} (hW : W0 Z a0) : (Jvm.Cond.laysFinal "java/lang/String" "java/lang/String" "value" "[B").before a0 Z = true := hW.1 _ (List.mem_of_getElem? (i := 37) rfl)
theorem w_38 {Z : State} {a0 : Array Value} (hW : W0 Z a0) : (Jvm.Cond.classLink "com/example/kapok/kapok/model/TokenIsPinLaw" (34 : Nat) "com/example/kapok/kapok/model/Token").before a0 Z = true := hW.1 _ (List.mem_of_getElem? (i := 38) rfl)
theorem w_39 {Z : State} {a0 : Array Value} (hW : W0 Z a0) : (Jvm.Cond.instantiable "com/example/kapok/kapok/model/Token" (2 : Nat)).before a0 Z = true := hW.1 _ (List.mem_of_getElem? (i := 39) rfl)
theorem w_40 {Z : State} {a0 : Array Value} (hW : W0 Z a0) : (Jvm.Cond.initialized "com/example/kapok/kapok/model/Token").before a0 Z = true := hW.1 _ (List.mem_of_getElem? (i := 40) rfl)
theorem w_41 {Z : State} {a0 : Array Value} (hW : W0 Z a0) : (Jvm.Cond.methodLink "com/example/kapok/kapok/model/TokenIsPinLaw" (36 : Nat) ({ cls := "com/example/kapok/kapok/model/Token", name := "<init>", desc := "(Lcom/example/kapok/kapok/model/Token$Kind;Ljava/lang/String;)V" } : Jvm.MethodName)).before a0 Z = true := hW.1 _ (List.mem_of_getElem? (i := 41) rfl)
theorem w_42 {Z : State} {a0 : Array Value} (hW : W0 Z a0) : (Jvm.Cond.instanceMethod ({ cls := "com/example/kapok/kapok/model/Token", name := "<init>", desc := "(Lcom/example/kapok/kapok/model/Token$Kind;Ljava/lang/String;)V" } : Jvm.MethodName)).before a0 Z = true := hW.1 _ (List.mem_of_getElem? (i := 42) rfl)
theorem w_43 {Z : State} {a0 : Array Value} (hW : W0 Z a0) : (Jvm.Cond.code ({ cls := "com/example/kapok/kapok/model/Token", name := "<init>", desc := "(Lcom/example/kapok/kapok/model/Token$Kind;Ljava/lang/String;)V" } : Jvm.MethodName) prog_5_method_1_code (3 : Nat) (Option.none : Option Jvm.ClassFile.FieldType)).before a0 Z = true := hW.1 _ (List.mem_of_getElem? (i := 43) rfl)
theorem w_44 {Z : State} {a0 : Array Value} (hW : W0 Z a0) : (Jvm.Cond.methodLink "com/example/kapok/kapok/model/Token" (1 : Nat) ({ cls := "java/lang/Record", name := "<init>", desc := "()V" } : Jvm.MethodName)).before a0 Z = true := hW.1 _ (List.mem_of_getElem? (i := 44) rfl)
theorem w_45 {Z : State} {a0 : Array Value} (hW : W0 Z a0) : (Jvm.Cond.instanceMethod ({ cls := "java/lang/Record", name := "<init>", desc := "()V" } : Jvm.MethodName)).before a0 Z = true := hW.1 _ (List.mem_of_getElem? (i := 45) rfl)
theorem w_47 {Z : State} {a0 : Array Value} (hW : W0 Z a0) : (Jvm.Cond.initialized "java/lang/Record").before a0 Z = true := hW.1 _ (List.mem_of_getElem? (i := 47) rfl)
theorem w_48 {Z : State} {a0 : Array Value} (hW : W0 Z a0) : (Jvm.Cond.code ({ cls := "java/lang/Record", name := "<init>", desc := "()V" } : Jvm.MethodName) jdk_30_method_1_code (1 : Nat) (Option.none : Option Jvm.ClassFile.FieldType)).before a0 Z = true := hW.1 _ (List.mem_of_getElem? (i := 48) rfl)
theorem w_49 {Z : State} {a0 : Array Value} (hW : W0 Z a0) : (Jvm.Cond.methodLink "java/lang/Record" (1 : Nat) ({ cls := "java/lang/Object", name := "<init>", desc := "()V" } : Jvm.MethodName)).before a0 Z = true := hW.1 _ (List.mem_of_getElem? (i := 49) rfl)
theorem w_50 {Z : State} {a0 : Array Value} (hW : W0 Z a0) : (Jvm.Cond.fieldLink "com/example/kapok/kapok/model/Token" (7 : Nat) "com/example/kapok/kapok/model/Token" "kind" "Lcom/example/kapok/kapok/model/Token$Kind;").before a0 Z = true := hW.1 _ (List.mem_of_getElem? (i := 50) rfl)
theorem w_51 {Z : State} {a0 : Array Value} (hW : W0 Z a0) : (Jvm.Cond.laysFinal "com/example/kapok/kapok/model/Token" "com/example/kapok/kapok/model/Token" "kind" "Lcom/example/kapok/kapok/model/Token$Kind;").before a0 Z = true := hW.1 _ (List.mem_of_getElem? (i := 51) rfl)
theorem w_52 {Z : State} {a0 : Array Value} (hW : W0 Z a0) : (Jvm.Cond.fieldLink "com/example/kapok/kapok/model/Token" (13 : Nat) "com/example/kapok/kapok/model/Token" "text" "Ljava/lang/String;").before a0 Z = true := hW.1 _ (List.mem_of_getElem? (i := 52) rfl)
theorem w_53 {Z : State} {a0 : Array Value} (hW : W0 Z a0) : (Jvm.Cond.laysFinal "com/example/kapok/kapok/model/Token" "com/example/kapok/kapok/model/Token" "text" "Ljava/lang/String;").before a0 Z = true := hW.1 _ (List.mem_of_getElem? (i := 53) rfl)
theorem w_54 {Z : State} {a0 : Array Value} (hW : W0 Z a0) : (Jvm.Cond.methodLink "com/example/kapok/kapok/model/TokenIsPinLaw" (39 : Nat) ({ cls := "com/example/kapok/kapok/model/Token", name := "is", desc := "(Ljava/lang/String;)Z" } : Jvm.MethodName)).before a0 Z = true := hW.1 _ (List.mem_of_getElem? (i := 54) rfl)
theorem w_55 {Z : State} {a0 : Array Value} (hW : W0 Z a0) : (Jvm.Cond.declares ({ cls := "com/example/kapok/kapok/model/Token", name := "is", desc := "(Ljava/lang/String;)Z" } : Jvm.MethodName)).before a0 Z = true := hW.1 _ (List.mem_of_getElem? (i := 55) rfl)
theorem w_56 {Z : State} {a0 : Array Value} (hW : W0 Z a0) : (Jvm.Cond.instanceMethod ({ cls := "com/example/kapok/kapok/model/Token", name := "is", desc := "(Ljava/lang/String;)Z" } : Jvm.MethodName)).before a0 Z = true := hW.1 _ (List.mem_of_getElem? (i := 56) rfl)
theorem w_57 {Z : State} {a0 : Array Value} (hW : W0 Z a0) : (Jvm.Cond.selects "com/example/kapok/kapok/model/Token" ({ cls := "com/example/kapok/kapok/model/Token", name := "is", desc := "(Ljava/lang/String;)Z" } : Jvm.MethodName) ({ cls := "com/example/kapok/kapok/model/Token", name := "is", desc := "(Ljava/lang/String;)Z" } : Jvm.MethodName)).before a0 Z = true := hW.1 _ (List.mem_of_getElem? (i := 57) rfl)
theorem w_58 {Z : State} {a0 : Array Value} (hW : W0 Z a0) : (Jvm.Cond.code ({ cls := "com/example/kapok/kapok/model/Token", name := "is", desc := "(Ljava/lang/String;)Z" } : Jvm.MethodName) prog_5_method_2_code (2 : Nat) (Option.some Jvm.ClassFile.FieldType.boolean)).before a0 Z = true := hW.1 _ (List.mem_of_getElem? (i := 58) rfl)
theorem w_59 {Z : State} {a0 : Array Value} (hW : W0 Z a0) : (Jvm.Cond.fieldLink "com/example/kapok/kapok/model/Token" (17 : Nat) "com/example/kapok/kapok/model/Token$Kind" "END" "Lcom/example/kapok/kapok/model/Token$Kind;").before a0 Z = true := hW.1 _ (List.mem_of_getElem? (i := 59) rfl)
theorem w_60 {Z : State} {a0 : Array Value} (hW : W0 Z a0) : (Jvm.Cond.laysStatic "com/example/kapok/kapok/model/Token$Kind" "END" "Lcom/example/kapok/kapok/model/Token$Kind;").before a0 Z = true := hW.1 _ (List.mem_of_getElem? (i := 60) rfl)
theorem w_61 {Z : State} {a0 : Array Value} (hW : W0 Z a0) : (Jvm.Cond.methodLink "com/example/kapok/kapok/model/Token" (22 : Nat) ({ cls := "java/lang/String", name := "equals", desc := "(Ljava/lang/Object;)Z" } : Jvm.MethodName)).before a0 Z = true := hW.1 _ (List.mem_of_getElem? (i := 61) rfl)
theorem w_62 {Z : State} {a0 : Array Value} (hW : W0 Z a0) : (Jvm.Cond.declares ({ cls := "java/lang/String", name := "equals", desc := "(Ljava/lang/Object;)Z" } : Jvm.MethodName)).before a0 Z = true := hW.1 _ (List.mem_of_getElem? (i := 62) rfl)
theorem w_63 {Z : State} {a0 : Array Value} (hW : W0 Z a0) : (Jvm.Cond.instanceMethod ({ cls := "java/lang/String", name := "equals", desc := "(Ljava/lang/Object;)Z" } : Jvm.MethodName)).before a0 Z = true := hW.1 _ (List.mem_of_getElem? (i := 63) rfl)
theorem w_64 {Z : State} {a0 : Array Value} (hW : W0 Z a0) : (Jvm.Cond.selects "java/lang/String" ({ cls := "java/lang/String", name := "equals", desc := "(Ljava/lang/Object;)Z" } : Jvm.MethodName) ({ cls := "java/lang/String", name := "equals", desc := "(Ljava/lang/Object;)Z" } : Jvm.MethodName)).before a0 Z = true := hW.1 _ (List.mem_of_getElem? (i := 64) rfl)
theorem w_65 {Z : State} {a0 : Array Value} (hW : W0 Z a0) : (Jvm.Cond.code ({ cls := "java/lang/String", name := "equals", desc := "(Ljava/lang/Object;)Z" } : Jvm.MethodName) jdk_42_method_66_code (3 : Nat) (Option.some Jvm.ClassFile.FieldType.boolean)).before a0 Z = true := hW.1 _ (List.mem_of_getElem? (i := 65) rfl)
theorem w_66 {Z : State} {a0 : Array Value} (hW : W0 Z a0) : (Jvm.Cond.classLink "java/lang/String" (10 : Nat) "java/lang/String").before a0 Z = true := hW.1 _ (List.mem_of_getElem? (i := 66) rfl)
theorem w_67 {Z : State} {a0 : Array Value} (hW : W0 Z a0) : (Jvm.Cond.methodLink "java/lang/String" (541 : Nat) ({ cls := "java/lang/StringLatin1", name := "equals", desc := "([B[B)Z" } : Jvm.MethodName)).before a0 Z = true := hW.1 _ (List.mem_of_getElem? (i := 67) rfl)
theorem w_68 {Z : State} {a0 : Array Value} (hW : W0 Z a0) : (Jvm.Cond.static ({ cls := "java/lang/StringLatin1", name := "equals", desc := "([B[B)Z" } : Jvm.MethodName)).before a0 Z = true := hW.1 _ (List.mem_of_getElem? (i := 68) rfl)
theorem w_69 {Z : State} {a0 : Array Value} (hW : W0 Z a0) : (Jvm.Cond.initialized "java/lang/StringLatin1").before a0 Z = true := hW.1 _ (List.mem_of_getElem? (i := 69) rfl)
theorem w_70 {Z : State} {a0 : Array Value} (hW : W0 Z a0) : (Jvm.Cond.code ({ cls := "java/lang/StringLatin1", name := "equals", desc := "([B[B)Z" } : Jvm.MethodName) jdk_43_method_13_code (3 : Nat) (Option.some Jvm.ClassFile.FieldType.boolean)).before a0 Z = true := hW.1 _ (List.mem_of_getElem? (i := 70) rfl)
theorem w_71 {Z : State} {a0 : Array Value} (hW : W0 Z a0) : (Jvm.Cond.fieldLink "com/example/kapok/kapok/model/TokenIsPinLaw" (24 : Nat) "com/example/kapok/kapok/model/Token$Kind" "END" "Lcom/example/kapok/kapok/model/Token$Kind;").before a0 Z = true := hW.1 _ (List.mem_of_getElem? (i := 71) rfl)
theorem w_72 {Z : State} {a0 : Array Value} (hW : W0 Z a0) : (Jvm.Cond.fieldLink "com/example/kapok/kapok/model/TokenIsPinLaw" (21 : Nat) "com/example/kapok/kapok/model/Token$Kind" "SYMBOL" "Lcom/example/kapok/kapok/model/Token$Kind;").before a0 Z = true := hW.1 _ (List.mem_of_getElem? (i := 72) rfl)
theorem w_73 {Z : State} {a0 : Array Value} (hW : W0 Z a0) : (Jvm.Cond.laysStatic "com/example/kapok/kapok/model/Token$Kind" "SYMBOL" "Lcom/example/kapok/kapok/model/Token$Kind;").before a0 Z = true := hW.1 _ (List.mem_of_getElem? (i := 73) rfl)
theorem w_74 {Z : State} {a0 : Array Value} (hW : W0 Z a0) : (Jvm.Cond.fieldLink "com/example/kapok/kapok/model/TokenIsPinLaw" (18 : Nat) "com/example/kapok/kapok/model/Token$Kind" "DEGREE" "Lcom/example/kapok/kapok/model/Token$Kind;").before a0 Z = true := hW.1 _ (List.mem_of_getElem? (i := 74) rfl)
theorem w_75 {Z : State} {a0 : Array Value} (hW : W0 Z a0) : (Jvm.Cond.laysStatic "com/example/kapok/kapok/model/Token$Kind" "DEGREE" "Lcom/example/kapok/kapok/model/Token$Kind;").before a0 Z = true := hW.1 _ (List.mem_of_getElem? (i := 75) rfl)
theorem w_76 {Z : State} {a0 : Array Value} (hW : W0 Z a0) : (Jvm.Cond.stringLink "java/lang/String" (7 : Nat) "").before a0 Z = true := hW.1 _ (List.mem_of_getElem? (i := 76) rfl)
theorem w_77 {Z : State} {a0 : Array Value} (hW : W0 Z a0) : (Jvm.Cond.soleField "java/lang/String" "value").before a0 Z = true := hW.1 _ (List.mem_of_getElem? (i := 77) rfl)
theorem w_78 {Z : State} {a0 : Array Value} (hW : W0 Z a0) : (Jvm.Cond.soleField "java/lang/String" "coder").before a0 Z = true := hW.1 _ (List.mem_of_getElem? (i := 78) rfl)
theorem s_0 {Z : State} {a0 : Array Value} (hW : W0 Z a0) : (Jvm.Cond.initializedFor "java/lang/String" "COMPACT_STRINGS" "Z").before a0 Z = true := hW.2 _ (List.mem_of_getElem? (i := 0) rfl)
theorem s_1 {Z : State} {a0 : Array Value} (hW : W0 Z a0) : (Jvm.Cond.isInt (Jvm.Term.static "java/lang/String" "COMPACT_STRINGS" "Z")).before a0 Z = true := hW.2 _ (List.mem_of_getElem? (i := 1) rfl)
theorem s_2 {Z : State} {a0 : Array Value} (hW : W0 Z a0) : (Jvm.Cond.not (Jvm.Cond.eq (Jvm.Term.static "java/lang/String" "COMPACT_STRINGS" "Z") (Jvm.Term.int (0 : Int32)))).before a0 Z = true := hW.2 _ (List.mem_of_getElem? (i := 2) rfl)
theorem fl_0 {Z : State} {a0 : Array Value} (hW : W0 Z a0) : LaidL Z a0 "java/lang/String" fStr := ⟨⟨Or.inr (w_37 hW), (.array .byte), by decide +kernel⟩, ⟨⟨Or.inr (w_35 hW), .byte, by decide +kernel⟩, trivial⟩⟩
theorem nd_0 : (fStr.map (fun q => q.2.1)).Nodup := by decide +kernel
theorem dv_0 : fStr.map (fun q => (parseFieldDescriptor q.2.2).map defaultValue) = [.null, (.int (0 : Int32))].map some := by decide +kernel
def f_1 : FL := [("com/example/kapok/kapok/model/Token", "kind", "Lcom/example/kapok/kapok/model/Token$Kind;"), ("com/example/kapok/kapok/model/Token", "text", "Ljava/lang/String;")]
theorem fl_1 {Z : State} {a0 : Array Value} (hW : W0 Z a0) : LaidL Z a0 "com/example/kapok/kapok/model/Token" f_1 := ⟨⟨Or.inr (w_51 hW), (.object "com/example/kapok/kapok/model/Token$Kind"), by decide +kernel⟩, ⟨⟨Or.inr (w_53 hW), (.object "java/lang/String"), by decide +kernel⟩, trivial⟩⟩
theorem nd_1 : (f_1.map (fun q => q.2.1)).Nodup := by decide +kernel
theorem dv_1 : f_1.map (fun q => (parseFieldDescriptor q.2.2).map defaultValue) = [.null, .null].map some := by decide +kernel
theorem own_txt_76 : (∀ c ∈ ("" : String).toList, c.toNat < 256) ∧ ("" : String).toList.map (fun c => Value.int (Jvm.Lit.byteI c.toNat.toUInt16)) = List.map Value.int [] := by decide +kernel
theorem own_tln_76 : (Int32.ofNat ([] : List Int32).length).toNatClampNeg = ([] : List Int32).length ∧ ¬ (Int32.ofNat ([] : List Int32).length) < 0 := by decide +kernel
theorem own_EL_mem_76 : (("java/lang/String", 7) : String × Nat) ∈ own_EL := List.mem_of_getElem? (i := 0) rfl
theorem own_ew {Z : State} {a0 : Array Value} (hW : W0 Z a0) : EW Z a0 own_EL := (EW.cons (w_76 hW) own_txt_76.1 EW.nil)
theorem own_sa {Z : State} {a0 : Array Value} (hW : W0 Z a0) : ∀ a ∈ Bundle.stringAtoms, a.before a0 Z = true := by
  intro a ha
  simp only [Bundle.stringAtoms, List.mem_cons, List.not_mem_nil, or_false] at ha
  rcases ha with rfl | rfl | rfl | rfl | rfl | rfl | rfl
  · exact (w_10 hW)
  · exact (w_9 hW)
  · exact (w_27 hW)
  · exact (w_37 hW)
  · exact (w_35 hW)
  · exact (w_77 hW)
  · exact (w_78 hW)
theorem own_cs {Z : State} {a0 : Array Value} (hW : W0 Z a0) : ∃ cz : Int32, Sta Z Z.heap "java/lang/String" "COMPACT_STRINGS" "Z" (.int cz) ∧ ¬ cz = 0 := by
  obtain ⟨cz, ev⟩ := is_v (Cond.before_iff.mp (s_1 hW))
  refine ⟨cz, Sta.start ev (Or.inl (s_0 hW)), fun e => ?_⟩
  subst e
  have q := (s_2 hW)
  simp [Cond.before, Cond.holds, Cond.value, ev, Term.int_eval] at q
theorem own_ord {s : State} {args : Array Value} {t : Term} {a : Addr} {n : Int32} (ev : t.eval args s none [] s = some (.ref a)) (h : (Jvm.Cond.eq (Jvm.Term.field t "java/lang/Enum" "ordinal" "I") (Jvm.Term.int n)).value args s none s [] = some true) : Fld s s.heap a "java/lang/Enum" "ordinal" "I" (.int n) := by
  have e := fld_at (C := "java/lang/Enum") (n := "ordinal") (dd := "I") ev
  cases hv : s.fieldOf? a "java/lang/Enum" "ordinal" "I" with
  | none => rw [hv] at e; simp [Cond.value, e] at h
  | some v =>
    rw [hv] at e
    have q : v = .int n := by
      cases v <;> simp [Cond.value, e, Term.int_eval] at h
      rw [h]
    subst q
    exact Fld.start hv
set_option maxRecDepth 65536 in
set_option maxHeartbeats 40000000 in
theorem own_lp_cmp {k : KT} {l : Launch} {Z : State} {a0 : Array Value} (hW : W0 Z a0) {h0 : Heap} {a t : Addr} {cs : List Int32} {QQ : QT}
    (C : Ctx k l y_0 jdk_52_method_21_code 7 (some .int) ({ frames := 0, cells := 0, slots := 0, locals := 0 } : Room) Z a0 own_EL true [t] h0 QQ) (hcs : own_lat cs) (hne : a ≠ t) (hQ : ∀ h', Av Z h' t .byte (List.map Value.int (List.map own_b cs)) → QQ (some (.int (Int32.ofNat (List.length cs)))) h' []) :
    ∀ (n i : Nat) (h : Heap) (s6 : Slot), i + n = cs.length → Sl s6 → Av Z h a .char (List.map Value.int cs) → Av Z h t .byte (List.map Value.int ((cs.take i).map own_b ++ List.replicate n 0)) → Go k h [t] 0 0 3 #[.val (.ref a), .val (.int (Int32.ofNat i)), .val (.ref t), .val (.int (Int32.ofNat i)), .val (.int (Int32.ofNat (List.length cs))), .val (.int (Int32.ofNat i)), s6] [] := by
  intro n
  induction n with
  | zero =>
    intro i h s6 hin hs6 V U
    have hi : i = cs.length := by omega
    subst hi
    have hl := V.lenI
    refine Go.iload C d6_3 rfl ?_
    refine Go.iload C d6_5 rfl ?_
    refine Go.icmpge C d6_7 (fun hc7 => ?_) (fun hc7 => absurd hc7 (by rw [nI_lt hl hl]; omega))
    refine Go.iload C d6_44 rfl ?_
    refine Go.ireturn C d6_46 (Nat.le_of_ble_eq_true rfl) (Nat.le_of_ble_eq_true rfl) (by simp) rfl [] (fun _ hx => nomatch hx) ?_
    exact hQ _ (by simpa using U)
  | succ n ih =>
    intro i h s6 hin hs6 V U
    have hl := V.lenI
    obtain ⟨c, hci⟩ : ∃ c, cs[i]? = some c := ⟨cs[i]'(by omega), List.getElem?_eq_getElem (by omega)⟩
    refine Go.iload C d6_3 rfl ?_
    refine Go.iload C d6_5 rfl ?_
    refine Go.icmpge C d6_7 (fun hc7 => absurd ((nI_lt (by omega) hl).mpr (by omega)) hc7) (fun hc7 => ?_)
    refine Go.aloadN C d6_10 rfl rfl ?_
    refine Go.iloadN C d6_11 rfl ?_
    refine Go.caload C V i (nI_nn (by omega)) (nI_nat (by omega)) (by rw [List.getElem?_map, hci]; rfl) d6_12 ?_
    refine Go.istore C d6_13 (Ls' := #[.val (.ref a), .val (.int (Int32.ofNat i)), .val (.ref t), .val (.int (Int32.ofNat i)), .val (.int (Int32.ofNat (List.length cs))), .val (.int (Int32.ofNat i)), .val (.int c)]) (sto1 rfl hs6 rfl rfl) ?_
    refine Go.iload C d6_15 rfl ?_
    refine Go.sipush C (255 : Int32) d6_17 (by decide) ?_
    refine Go.icmple C d6_20 (fun hc20 => ?_) (fun hc20 => absurd hc20 (hcs c (List.mem_of_getElem? hci)).2)
    refine Go.aloadN C d6_26 rfl rfl ?_
    refine Go.iloadN C d6_27 rfl ?_
    refine Go.iload C d6_28 rfl ?_
    refine Go.i2b C d6_30 ?_
    refine Go.bastore C U (List.mem_of_getElem? (i := 0) rfl) i (nI_nn (by omega)) (nI_nat (by omega)) (by simp; omega) (x' := (own_b c)) (own_b_nar c) (vs' := (List.map Value.int ((cs.take (i + 1)).map own_b ++ List.replicate n 0))) (own_set (by omega) hci) d6_31 (fun h1 K2 U => ?_)
    replace V := V.keep K2 (ninS hne nin0)
    refine Go.iinc C (Int32.ofNat (i + 1)) d6_32 rfl (nI_succ _) (Ls' := #[.val (.ref a), .val (.int (Int32.ofNat (i + 1))), .val (.ref t), .val (.int (Int32.ofNat i)), .val (.int (Int32.ofNat (List.length cs))), .val (.int (Int32.ofNat i)), .val (.int c)]) rfl ?_
    refine Go.iinc C (Int32.ofNat (i + 1)) d6_35 rfl (nI_succ _) (Ls' := #[.val (.ref a), .val (.int (Int32.ofNat (i + 1))), .val (.ref t), .val (.int (Int32.ofNat (i + 1))), .val (.int (Int32.ofNat (List.length cs))), .val (.int (Int32.ofNat i)), .val (.int c)]) rfl ?_
    refine Go.iinc C (Int32.ofNat (i + 1)) d6_38 rfl (nI_succ _) (Ls' := #[.val (.ref a), .val (.int (Int32.ofNat (i + 1))), .val (.ref t), .val (.int (Int32.ofNat (i + 1))), .val (.int (Int32.ofNat (List.length cs))), .val (.int (Int32.ofNat (i + 1))), .val (.int c)]) rfl ?_
    refine Go.goto C d6_41 ?_
    exact ih (i + 1) _ _ (by omega) (Sl.val rfl) V U
def Q6 (Z : State) (h : Heap) (a : Addr) (t : Addr) (cs : List Int32) : QT := fun v h' os' => (v = some (.int (Int32.ofNat (List.length cs)))) ∧ (os' = []) ∧ (Av Z h' t .byte (List.map Value.int (List.map own_b cs)))
set_option maxRecDepth 65536 in
set_option maxHeartbeats 40000000 in
theorem rm6 {l : Launch} {Z : State} {a0 : Array Value} (hW : W0 Z a0) (h : Heap) (a : Addr) (t : Addr) (cs : List Int32) (V : Av Z h a .char (List.map Value.int cs)) (U : Av Z h t .byte (List.map Value.int (List.replicate (List.length cs) (0 : Int32)))) (hcs : own_lat cs) (hne : a ≠ t) :
    Con l Z own_EL true y_0 jdk_52_method_21_code 7 (some .int) ({ frames := 0, cells := 0, slots := 0, locals := 0 } : Room) [] #[(.ref a), (.int (0 : Int32)), (.ref t), (.int (0 : Int32)), (.int (Int32.ofNat (List.length cs)))] h [t] (Q6 Z h a t cs) := by
  refine Con.intro (a0 := a0) (Ls := #[.val (.ref a), .val (.int (0 : Int32)), .val (.ref t), .val (.int (0 : Int32)), .val (.int (Int32.ofNat (List.length cs))), .unset, .unset]) (by decide +kernel) (own_ew hW) (fun m => by first | (simp [entryFrame, mkF, argsToLocals, Value.category]; done) | rfl) ?_
  intro k C
  refine Go.iconst C (0 : Int32) d6_0 (by decide) ?_
  refine Go.istore C d6_1 (Ls' := #[.val (.ref a), .val (.int (0 : Int32)), .val (.ref t), .val (.int (0 : Int32)), .val (.int (Int32.ofNat (List.length cs))), .val (.int (0 : Int32)), .unset]) rfl ?_
  exact own_lp_cmp hW C hcs hne (fun h' q => ⟨rfl, rfl, q⟩) (List.length cs) 0 _ _ (by omega) Sl.u V (by simpa using U)
def Q5 (Z : State) (h : Heap) (a : Addr) (cs : List Int32) : QT := fun v h' os' => ∃ t : Addr, (v = some (.ref t)) ∧ (os' = [t]) ∧ (Av Z h' t .byte (List.map Value.int (List.map own_b cs)))
set_option maxRecDepth 65536 in
set_option maxHeartbeats 40000000 in
theorem rm5 {l : Launch} {Z : State} {a0 : Array Value} (hW : W0 Z a0) (h : Heap) (a : Addr) (cs : List Int32) (V : Av Z h a .char (List.map Value.int cs)) (hcs : own_lat cs) (hcap : (List.length cs) ≤ 2) :
    Con l Z own_EL true y_1 jdk_52_method_16_code 6 (some (.array .byte)) ({ frames := 1, cells := 1, slots := 2, locals := 18 } : Room) [] #[(.ref a), (.int (0 : Int32)), (.int (Int32.ofNat (List.length cs)))] h [] (Q5 Z h a cs) := by
  refine Con.intro (a0 := a0) (Ls := #[.val (.ref a), .val (.int (0 : Int32)), .val (.int (Int32.ofNat (List.length cs))), .unset, .unset, .unset]) (by decide +kernel) (own_ew hW) (fun m => by first | (simp [entryFrame, mkF, argsToLocals, Value.category]; done) | rfl) ?_
  intro k C
  have hl := V.lenI
  refine Go.iloadN C d5_0 rfl ?_
  refine Go.newarray C (aty := .byte) (w_27 hW) d5_1 (nI_nn hl) (List.length cs) (nI_nat hl) (cap := 2) hcap (by decide) (by decide) (by decide) (fun b1 h2 e3 K4 A5 => ?_)
  have A5 : Av Z h2 b1 .byte (List.replicate (List.length cs) (.int (0 : Int32))) := A5
  have ge_b1 : h.size ≤ b1 := Nat.le_trans (Nat.le_refl _) (ge_of e3)
  have n_a_b1 : a ≠ b1 := ne_lt V.lt (ge_of e3)
  replace V := V.k0 K4
  have l_h2 : h.size ≤ h2.size := Nat.le_trans (Nat.le_refl _) K4.1
  replace A5 : Av Z h2 b1 .byte (List.map Value.int (List.replicate (List.length cs) (0 : Int32))) := by rw [List.map_replicate]; exact A5
  refine Go.astoreN C d5_3 rfl (Ls' := #[.val (.ref a), .val (.int (0 : Int32)), .val (.int (Int32.ofNat (List.length cs))), .val (.ref b1), .unset, .unset]) rfl ?_
  refine Go.aloadN C d5_4 rfl rfl ?_
  refine Go.iloadN C d5_5 rfl ?_
  refine Go.aloadN C d5_6 rfl rfl ?_
  refine Go.iconst C (0 : Int32) d5_7 (by decide) ?_
  refine Go.iloadN C d5_8 rfl ?_
  refine Go.callS C (z := y_0) (argsL := [(.ref a), (.int (0 : Int32)), (.ref b1), (.int (0 : Int32)), (.int (Int32.ofNat (List.length cs)))]) (rm6 hW h2 (a) (b1) (cs) V A5 (by assumption) n_a_b1) (w_28 hW) (w_29 hW) (w_25 hW) (w_30 hW) d5_9 pd_0 rfl (by decide) rfl (st := []) rfl (by decide) (Nat.le_of_ble_eq_true rfl) (by decide) (by decide) (List.forall_mem_cons.mpr ⟨(List.mem_of_getElem? (i := 0) rfl), (fun _ hx => nomatch hx)⟩) (fun v6 h7 os8 q9 K10 ho11 => ?_)
  obtain ⟨rfl, rfl, F12⟩ := q9
  replace V := V.keep K10 (ninS n_a_b1 nin0)
  have l_h7 : h.size ≤ h7.size := Nat.le_trans l_h2 K10.1
  show Go k h7 _ _ _ 12 #[.val (.ref a), .val (.int (0 : Int32)), .val (.int (Int32.ofNat (List.length cs))), .val (.ref b1), .unset, .unset] [(.int (Int32.ofNat (List.length cs)))]
  refine Go.istore C d5_12 (Ls' := #[.val (.ref a), .val (.int (0 : Int32)), .val (.int (Int32.ofNat (List.length cs))), .val (.ref b1), .val (.int (Int32.ofNat (List.length cs))), .unset]) rfl ?_
  refine Go.iload C d5_14 rfl ?_
  refine Go.iloadN C d5_16 rfl ?_
  refine Go.icmpeq C d5_17 (fun hc17 => ?_) (fun hc17 => absurd rfl hc17)
  refine Go.aloadN C d5_57 rfl rfl ?_
  refine Go.areturn C d5_58 (Nat.le_of_ble_eq_true rfl) (Nat.le_of_ble_eq_true rfl) rfl rfl [b1] (List.forall_mem_cons.mpr ⟨⟨(List.mem_of_getElem? (i := 0) rfl), ge_b1⟩, (fun _ hx => nomatch hx)⟩) ?_
  exact ⟨_, rfl, rfl, F12⟩
def Q7 (Z : State) (h : Heap) (t : Addr) (bs : List Int32) (n : Int32) : QT := fun v h' os' => (v = some (.int (0 : Int32))) ∧ (os' = []) ∧ (h = h')
set_option maxRecDepth 65536 in
set_option maxHeartbeats 40000000 in
theorem rm7 {l : Launch} {Z : State} {a0 : Array Value} (hW : W0 Z a0) (h : Heap) (t : Addr) (bs : List Int32) (n : Int32) (V : Av Z h t .byte (List.map Value.int bs)) (hn : n = Int32.ofNat (List.length bs)) :
    Con l Z own_EL true y_2 jdk_52_method_15_code 2 (some .byte) ({ frames := 0, cells := 0, slots := 0, locals := 0 } : Room) [] #[(.ref t), (.int n)] h [] (Q7 Z h t bs n) := by
  refine Con.intro (a0 := a0) (Ls := #[.val (.ref t), .val (.int n)]) (by decide +kernel) (own_ew hW) (fun m => by first | (simp [entryFrame, mkF, argsToLocals, Value.category]; done) | rfl) ?_
  intro k C
  refine Go.iloadN C d7_0 rfl ?_
  refine Go.aloadN C d7_1 rfl rfl ?_
  refine Go.arraylength C V (Int32.ofNat (List.length bs)) (by rw [List.length_map]) d7_2 ?_
  refine Go.isub C d7_3 ?_
  refine Go.eqI (x' := (0 : Int32)) (by rw [hn, Int32.sub_self]) ?_
  refine Go.bipush C (31 : Int32) d7_4 (by decide) ?_
  refine Go.iushr C d7_6 ?_
  refine Go.eqI (x' := (0 : Int32)) (by decide) ?_
  refine Go.i2b C d7_7 ?_
  refine Go.eqI (x' := (0 : Int32)) (by decide) ?_
  refine Go.ireturn C d7_8 (Nat.le_of_ble_eq_true rfl) (Nat.le_of_ble_eq_true rfl) (by simp) rfl [] (fun _ hx => nomatch hx) ?_
  exact ⟨rfl, rfl, rfl⟩
def Q3 (Z : State) (h : Heap) (x : Addr) (a : Addr) (cs : List Int32) : QT := fun v h' os' => ∃ t : Addr, (v = none) ∧ (os' = []) ∧ (Str Z h' x t (List.map own_b cs))
set_option maxRecDepth 65536 in
set_option maxHeartbeats 40000000 in
theorem rm3 {l : Launch} {Z : State} {a0 : Array Value} (hW : W0 Z a0) (h : Heap) (x : Addr) (a : Addr) (cs : List Int32) (O : Obj Z h x "java/lang/String" fStr [.null, (.int (0 : Int32))]) (V : Av Z h a .char (List.map Value.int cs)) (hcs : own_lat cs) (hcap : (List.length cs) ≤ 2) (hxa : a ≠ x) :
    Con l Z own_EL true y_3 jdk_42_method_149_code 6 none ({ frames := 2, cells := 4, slots := 8, locals := 35 } : Room) [] #[(.ref x), (.ref a), (.int (0 : Int32)), (.int (Int32.ofNat (List.length cs))), .null] h [x] (Q3 Z h x a cs) := by
  refine Con.intro (a0 := a0) (Ls := #[.val (.ref x), .val (.ref a), .val (.int (0 : Int32)), .val (.int (Int32.ofNat (List.length cs))), .val .null, .unset]) (by decide +kernel) (own_ew hW) (fun m => by first | (simp [entryFrame, mkF, argsToLocals, Value.category]; done) | rfl) ?_
  intro k C
  obtain ⟨cz, Scs, ncz⟩ := own_cs hW
  have hl := V.lenI
  refine Go.aloadN C d3_0 rfl rfl ?_
  refine Go.initO C (w_19 hW) (w_20 hW) (w_21 hW) d3_1 rfl (by decide) (Nat.le_of_ble_eq_true rfl) ?_
  refine Go.iloadN C d3_4 rfl ?_
  refine Go.ifne C d3_5 (fun hc5 => ?_) (fun hc5 => ?_)
  · refine Go.getS C Scs (host := "") (Or.inl (w_22 hW)) Via.refl d3_27 ?_
    refine Go.ifeq C d3_30 (fun hc30 => absurd hc30 ncz) (fun hc30 => ?_)
    refine Go.aloadN C d3_33 rfl rfl ?_
    refine Go.iloadN C d3_34 rfl ?_
    refine Go.iloadN C d3_35 rfl ?_
    refine Go.callS C (z := y_1) (argsL := [(.ref a), (.int (0 : Int32)), (.int (Int32.ofNat (List.length cs)))]) (rm5 hW h (a) (cs) V (by assumption) (by assumption)) (w_23 hW) (w_24 hW) (w_25 hW) (w_26 hW) d3_36 pd_1 rfl (by decide) rfl (st := []) rfl (by decide) (Nat.le_of_ble_eq_true rfl) (by decide) (by decide) ((fun _ hx => nomatch hx)) (fun v15 h16 os17 q18 K19 ho20 => ?_)
    obtain ⟨t21, rfl, rfl, F22⟩ := q18
    have g_t21 : h.size ≤ t21 := (ho20 _ (List.mem_of_getElem? (i := 0) rfl)).1
    have n_x_t21 : x ≠ t21 := ne_lt O.lt g_t21
    have n_a_t21 : a ≠ t21 := ne_lt V.lt g_t21
    replace O := O.k0 K19
    replace V := V.k0 K19
    show Go k h16 _ _ _ 39 #[.val (.ref x), .val (.ref a), .val (.int (0 : Int32)), .val (.int (Int32.ofNat (List.length cs))), .val .null, .unset] [(.ref t21)]
    refine Go.astore C d3_39 rfl (Ls' := #[.val (.ref x), .val (.ref a), .val (.int (0 : Int32)), .val (.int (Int32.ofNat (List.length cs))), .val .null, .val (.ref t21)]) rfl ?_
    refine Go.aloadN C d3_41 rfl rfl ?_
    refine Go.aload C d3_42 rfl rfl ?_
    refine Go.iloadN C d3_44 rfl ?_
    refine Go.callS C (z := y_2) (argsL := [(.ref t21), (.int (Int32.ofNat (List.length cs)))]) (rm7 hW h16 (t21) ((List.map own_b cs)) ((Int32.ofNat (List.length cs))) F22 (by rw [List.length_map])) (w_31 hW) (w_32 hW) (w_25 hW) (w_33 hW) d3_45 pd_2 rfl (by decide) rfl (st := [(.ref x)]) rfl (by decide) (Nat.le_of_ble_eq_true rfl) (by decide) (by decide) ((fun _ hx => nomatch hx)) (fun v23 h24 os25 q26 K27 ho28 => ?_)
    obtain ⟨rfl, rfl, rfl⟩ := q26
    clear K27 ho28
    show Go k h16 _ _ _ 48 #[.val (.ref x), .val (.ref a), .val (.int (0 : Int32)), .val (.int (Int32.ofNat (List.length cs))), .val .null, .val (.ref t21)] [(.int (0 : Int32)), (.ref x)]
    refine Go.putF C O (List.mem_of_getElem? (i := 1) rfl) 1 rfl (w_34 hW) Via.refl (Or.inr ⟨w_35 hW, rfl, rfl⟩) (w_9 hW) (fl_0 hW) nd_0 (ty := .byte) (by decide +kernel) (v' := (.int (0 : Int32))) rfl rfl (vs' := [.null, (.int (0 : Int32))]) rfl d3_48 (fun h29 K30 O => ?_)
    replace V := V.keep K30 (ninS hxa nin0)
    replace F22 := F22.keep K30 (ninS (Ne.symm n_x_t21) nin0)
    refine Go.aloadN C d3_51 rfl rfl ?_
    refine Go.aload C d3_52 rfl rfl ?_
    refine Go.putF C O (List.mem_of_getElem? (i := 1) rfl) 0 rfl (w_36 hW) Via.refl (Or.inr ⟨w_37 hW, rfl, rfl⟩) (w_9 hW) (fl_0 hW) nd_0 (ty := (.array .byte)) (by decide +kernel) (v' := (.ref t21)) rfl rfl (vs' := [(.ref t21), (.int (0 : Int32))]) rfl d3_54 (fun h31 K32 O => ?_)
    replace V := V.keep K32 (ninS hxa nin0)
    replace F22 := F22.keep K32 (ninS (Ne.symm n_x_t21) nin0)
    refine Go.retV C d3_57 (Nat.le_of_ble_eq_true rfl) (Nat.le_of_ble_eq_true rfl) [] (fun _ hx => nomatch hx) ?_
    exact ⟨_, rfl, rfl, ⟨O, F22⟩⟩
  · have hnil := own_nil hl hc5
    refine Go.aloadN C d3_8 rfl rfl ?_
    refine Go.ldcStr C (w_76 hW) (own_sa hW) own_EL_mem_76 (bs := []) own_txt_76 own_tln_76 d3_9 (n := 0) (by decide) (by decide) (by decide) (by decide) (fun a1 t3 h2 K4 F5 nF5 => ?_)
    replace O := O.k0 K4
    replace V := V.k0 K4
    refine Go.getF C F5.1 0 rfl rfl (host := "") (Or.inl (w_36 hW)) Via.refl d3_11 ?_
    refine Go.putF C O (List.mem_of_getElem? (i := 0) rfl) 0 rfl (w_36 hW) Via.refl (Or.inr ⟨w_37 hW, rfl, rfl⟩) (w_9 hW) (fl_0 hW) nd_0 (ty := (.array .byte)) (by decide +kernel) (v' := (.ref t3)) rfl rfl (vs' := [(.ref t3), (.int (0 : Int32))]) rfl d3_14 (fun h6 K7 O => ?_)
    replace V := V.keep K7 (ninS hxa nin0)
    replace F5 := F5.keep K7 (ninS (nF5 x (List.mem_of_getElem? (i := 0) rfl)).1 nin0) (ninS (nF5 x (List.mem_of_getElem? (i := 0) rfl)).2 nin0)
    refine Go.aloadN C d3_17 rfl rfl ?_
    refine Go.ldcStr C (w_76 hW) (own_sa hW) own_EL_mem_76 (bs := []) own_txt_76 own_tln_76 d3_18 (n := 0) (by decide) (by decide) (by decide) (by decide) (fun a8 t10 h9 K11 F12 nF12 => ?_)
    replace O := O.k0 K11
    replace V := V.k0 K11
    replace F5 := F5.k0 K11
    refine Go.getF C F12.1 1 rfl rfl (host := "") (Or.inl (w_34 hW)) Via.refl d3_20 ?_
    refine Go.putF C O (List.mem_of_getElem? (i := 0) rfl) 1 rfl (w_34 hW) Via.refl (Or.inr ⟨w_35 hW, rfl, rfl⟩) (w_9 hW) (fl_0 hW) nd_0 (ty := .byte) (by decide +kernel) (v' := (.int (0 : Int32))) rfl rfl (vs' := [(.ref t3), (.int (0 : Int32))]) rfl d3_23 (fun h13 K14 O => ?_)
    replace V := V.keep K14 (ninS hxa nin0)
    replace F5 := F5.keep K14 (ninS (nF5 x (List.mem_of_getElem? (i := 0) rfl)).1 nin0) (ninS (nF5 x (List.mem_of_getElem? (i := 0) rfl)).2 nin0)
    replace F12 := F12.keep K14 (ninS (nF12 x (List.mem_of_getElem? (i := 0) rfl)).1 nin0) (ninS (nF12 x (List.mem_of_getElem? (i := 0) rfl)).2 nin0)
    refine Go.retV C d3_26 (Nat.le_of_ble_eq_true rfl) (Nat.le_of_ble_eq_true rfl) [] (fun _ hx => nomatch hx) ?_
    exact ⟨_, rfl, rfl, by rw [hnil]; exact ⟨O, F5.2⟩⟩
def Q2 (Z : State) (h : Heap) (x : Addr) (a : Addr) (cs : List Int32) : QT := fun v h' os' => ∃ t : Addr, (v = none) ∧ (os' = []) ∧ (Str Z h' x t (List.map own_b cs))
set_option maxRecDepth 65536 in
set_option maxHeartbeats 40000000 in
theorem rm2 {l : Launch} {Z : State} {a0 : Array Value} (hW : W0 Z a0) (h : Heap) (x : Addr) (a : Addr) (cs : List Int32) (O : Obj Z h x "java/lang/String" fStr [.null, (.int (0 : Int32))]) (V : Av Z h a .char (List.map Value.int cs)) (hcs : own_lat cs) (hcap : (List.length cs) ≤ 2) (hxa : a ≠ x) :
    Con l Z own_EL true y_4 jdk_42_method_3_code 2 none ({ frames := 3, cells := 4, slots := 8, locals := 60 } : Room) [] #[(.ref x), (.ref a)] h [x] (Q2 Z h x a cs) := by
  refine Con.intro (a0 := a0) (Ls := #[.val (.ref x), .val (.ref a)]) (by decide +kernel) (own_ew hW) (fun m => by first | (simp [entryFrame, mkF, argsToLocals, Value.category]; done) | rfl) ?_
  intro k C
  refine Go.aloadN C d2_0 rfl rfl ?_
  refine Go.aloadN C d2_1 rfl rfl ?_
  refine Go.iconst C (0 : Int32) d2_2 (by decide) ?_
  refine Go.aloadN C d2_3 rfl rfl ?_
  refine Go.arraylength C V (Int32.ofNat (List.length cs)) (by rw [List.length_map]) d2_4 ?_
  refine Go.aconstNull C d2_5 ?_
  refine Go.callI C (z := y_3) (a := x) (argsL := [(.ref a), (.int (0 : Int32)), (.int (Int32.ofNat (List.length cs))), .null]) (rm3 hW h (x) (a) (cs) O V (by assumption) (by assumption) (by assumption)) rfl (w_15 hW) (w_16 hW) (w_10 hW) (w_18 hW) d2_6 pd_3 rfl (by decide) rfl (st := []) rfl (by decide) (Nat.le_of_ble_eq_true rfl) (by decide) (by decide) (List.forall_mem_cons.mpr ⟨(List.mem_of_getElem? (i := 0) rfl), (fun _ hx => nomatch hx)⟩) (fun v1 h2 os3 q4 K5 ho6 => ?_)
  obtain ⟨t7, rfl, rfl, F8⟩ := q4
  replace V := V.keep K5 (ninS hxa nin0)
  show Go k h2 _ _ _ 9 #[.val (.ref x), .val (.ref a)] []
  refine Go.retV C d2_9 (Nat.le_of_ble_eq_true rfl) (Nat.le_of_ble_eq_true rfl) [] (fun _ hx => nomatch hx) ?_
  exact ⟨_, rfl, rfl, F8⟩
set_option maxRecDepth 65536 in
set_option maxHeartbeats 40000000 in
theorem own_lp_eq {k : KT} {l : Launch} {Z : State} {a0 : Array Value} (hW : W0 Z a0) {h0 : Heap} {a b : Addr} {xs ys : List Int32} {h : Heap} {QQ : QT}
    (C : Ctx k l y_5 jdk_43_method_13_code 3 (some .boolean) ({ frames := 0, cells := 0, slots := 0, locals := 0 } : Room) Z a0 own_EL true [] h0 QQ) (V : Av Z h a .byte (List.map Value.int xs)) (U : Av Z h b .byte (List.map Value.int ys)) (hlen : xs.length = ys.length) (hQ1 : xs = ys → QQ (some (.int 1)) h []) (hQ0 : ¬ xs = ys → QQ (some (.int 0)) h []) :
    ∀ (n i : Nat), i + n = xs.length → (∀ j, j < i → xs[j]? = ys[j]?) → Go k h [] 0 0 9 #[.val (.ref a), .val (.ref b), .val (.int (Int32.ofNat i))] [] := by
  intro n
  induction n with
  | zero =>
    intro i hin hpre
    have hl := V.lenI
    refine Go.iloadN C d12_9 rfl ?_
    refine Go.aloadN C d12_10 rfl rfl ?_
    refine Go.arraylength C V (Int32.ofNat (List.length xs)) (by rw [List.length_map]) d12_11 ?_
    refine Go.icmpge C d12_12 (fun hc12 => ?_) (fun hc12 => absurd hc12 (by rw [nI_lt (by omega) hl]; omega))
    refine Go.iconst C (1 : Int32) d12_32 (by decide) ?_
    refine Go.ireturn C d12_33 (Nat.le_of_ble_eq_true rfl) (Nat.le_of_ble_eq_true rfl) (by simp) rfl [] (fun _ hx => nomatch hx) ?_
    exact hQ1 (List.ext_getElem? fun j => by
      by_cases hj : j < xs.length
      · exact hpre j (by omega)
      · rw [List.getElem?_eq_none (by omega), List.getElem?_eq_none (by omega)])
  | succ n ih =>
    intro i hin hpre
    have hl := V.lenI
    obtain ⟨c, hci⟩ : ∃ c, xs[i]? = some c := ⟨xs[i]'(by omega), List.getElem?_eq_getElem (by omega)⟩
    obtain ⟨e, hei⟩ : ∃ e, ys[i]? = some e := ⟨ys[i]'(by omega), List.getElem?_eq_getElem (by omega)⟩
    refine Go.iloadN C d12_9 rfl ?_
    refine Go.aloadN C d12_10 rfl rfl ?_
    refine Go.arraylength C V (Int32.ofNat (List.length xs)) (by rw [List.length_map]) d12_11 ?_
    refine Go.icmpge C d12_12 (fun hc12 => absurd ((nI_lt (by omega) hl).mpr (by omega)) hc12) (fun hc12 => ?_)
    refine Go.aloadN C d12_15 rfl rfl ?_
    refine Go.iloadN C d12_16 rfl ?_
    refine Go.baload C V i (nI_nn (by omega)) (nI_nat (by omega)) (by rw [List.getElem?_map, hci]; rfl) d12_17 ?_
    refine Go.aloadN C d12_18 rfl rfl ?_
    refine Go.iloadN C d12_19 rfl ?_
    refine Go.baload C U i (nI_nn (by omega)) (nI_nat (by omega)) (by rw [List.getElem?_map, hei]; rfl) d12_20 ?_
    refine Go.icmpeq C d12_21 (fun hc21 => ?_) (fun hc21 => ?_)
    · refine Go.iinc C (Int32.ofNat (i + 1)) d12_26 rfl (nI_succ _) (Ls' := #[.val (.ref a), .val (.ref b), .val (.int (Int32.ofNat (i + 1)))]) rfl ?_
      refine Go.goto C d12_29 ?_
      refine ih (i + 1) (by omega) (fun j hj => ?_)
      by_cases hji : j = i
      · subst hji; rw [hci, hei, hc21]
      · exact hpre j (by omega)
    · refine Go.iconst C (0 : Int32) d12_24 (by decide) ?_
      refine Go.ireturn C d12_25 (Nat.le_of_ble_eq_true rfl) (Nat.le_of_ble_eq_true rfl) (by simp) rfl [] (fun _ hx => nomatch hx) ?_
      exact hQ0 (fun q => hc21 (by subst q; rw [hci] at hei; exact Option.some.inj hei))
def Q12 (Z : State) (h : Heap) (a : Addr) (b : Addr) (xs : List Int32) (ys : List Int32) : QT := fun v h' os' => (v = some (.int (if xs = ys then (1 : Int32) else 0))) ∧ (os' = []) ∧ (h = h')
set_option maxRecDepth 65536 in
set_option maxHeartbeats 40000000 in
theorem rm12 {l : Launch} {Z : State} {a0 : Array Value} (hW : W0 Z a0) (h : Heap) (a : Addr) (b : Addr) (xs : List Int32) (ys : List Int32) (V : Av Z h a .byte (List.map Value.int xs)) (U : Av Z h b .byte (List.map Value.int ys)) :
    Con l Z own_EL true y_5 jdk_43_method_13_code 3 (some .boolean) ({ frames := 0, cells := 0, slots := 0, locals := 0 } : Room) [] #[(.ref a), (.ref b)] h [] (Q12 Z h a b xs ys) := by
  refine Con.intro (a0 := a0) (Ls := #[.val (.ref a), .val (.ref b), .unset]) (by decide +kernel) (own_ew hW) (fun m => by first | (simp [entryFrame, mkF, argsToLocals, Value.category]; done) | rfl) ?_
  intro k C
  have hl := V.lenI
  have hl' := U.lenI
  refine Go.aloadN C d12_0 rfl rfl ?_
  refine Go.arraylength C V (Int32.ofNat (List.length xs)) (by rw [List.length_map]) d12_1 ?_
  refine Go.aloadN C d12_2 rfl rfl ?_
  refine Go.arraylength C U (Int32.ofNat (List.length ys)) (by rw [List.length_map]) d12_3 ?_
  refine Go.icmpne C d12_4 (fun hc4 => ?_) (fun hc4 => ?_)
  · refine Go.iconst C (0 : Int32) d12_34 (by decide) ?_
    refine Go.ireturn C d12_35 (Nat.le_of_ble_eq_true rfl) (Nat.le_of_ble_eq_true rfl) (by simp) rfl [] (fun _ hx => nomatch hx) ?_
    exact ⟨congrArg (fun z => some (Value.int z)) (if_neg (fun q => hc4 (by rw [q]))).symm, rfl, rfl⟩
  · refine Go.iconst C (0 : Int32) d12_7 (by decide) ?_
    refine Go.istoreN C d12_8 (Ls' := #[.val (.ref a), .val (.ref b), .val (.int (0 : Int32))]) rfl ?_
    exact own_lp_eq hW C V U ((nI_eq hl hl').mp hc4) (fun q => ⟨congrArg (fun z => some (Value.int z)) (if_pos q).symm, rfl, rfl⟩) (fun q => ⟨congrArg (fun z => some (Value.int z)) (if_neg q).symm, rfl, rfl⟩) (List.length xs) 0 (by omega) (fun j hj => absurd hj (by omega))
def Q11 (Z : State) (h : Heap) (a : Addr) (b : Addr) (ta : Addr) (tb : Addr) (xs : List Int32) (ys : List Int32) : QT := fun v h' os' => (v = some (.int (if xs = ys then (1 : Int32) else 0))) ∧ (os' = []) ∧ (h = h')
set_option maxRecDepth 65536 in
set_option maxHeartbeats 40000000 in
theorem rm11 {l : Launch} {Z : State} {a0 : Array Value} (hW : W0 Z a0) (h : Heap) (a : Addr) (b : Addr) (ta : Addr) (tb : Addr) (xs : List Int32) (ys : List Int32) (S : Str Z h a ta xs) (T : Str Z h b tb ys) :
    Con l Z own_EL true y_6 jdk_42_method_66_code 3 (some .boolean) ({ frames := 1, cells := 0, slots := 0, locals := 14 } : Room) [] #[(.ref a), (.ref b)] h [] (Q11 Z h a b ta tb xs ys) := by
  refine Con.intro (a0 := a0) (Ls := #[.val (.ref a), .val (.ref b), .unset]) (by decide +kernel) (own_ew hW) (fun m => by first | (simp [entryFrame, mkF, argsToLocals, Value.category]; done) | rfl) ?_
  intro k C
  obtain ⟨cz, Scs, ncz⟩ := own_cs hW
  have SV := S.2
  have TV := T.2
  refine Go.aloadN C d11_0 rfl rfl ?_
  refine Go.aloadN C d11_1 rfl rfl ?_
  refine Go.acmpne C d11_2 (fun hc2 => ?_) (fun hc2 => ?_)
  · refine Go.aloadN C d11_7 rfl rfl ?_
    refine Go.instanceofYes C (Ins.self T.exa) (w_66 hW) d11_8 ?_
    refine Go.ifeq C d11_11 (fun hc => absurd hc (by decide)) (fun _ => ?_)
    refine Go.aloadN C d11_14 rfl rfl ?_
    refine Go.checkcast C (Ins.self T.exa) (w_66 hW) d11_15 ?_
    refine Go.astoreN C d11_18 rfl (Ls' := #[.val (.ref a), .val (.ref b), .val (.ref b)]) rfl ?_
    refine Go.getS C Scs (host := "") (Or.inl (w_22 hW)) Via.refl d11_19 ?_
    refine Go.ifeq C d11_22 (fun hc22 => absurd hc22 ncz) (fun hc22 => ?_)
    refine Go.aloadN C d11_25 rfl rfl ?_
    refine Go.getF C S.1 1 rfl rfl (host := "") (Or.inl (w_34 hW)) Via.refl d11_26 ?_
    refine Go.aloadN C d11_29 rfl rfl ?_
    refine Go.getF C T.1 1 rfl rfl (host := "") (Or.inl (w_34 hW)) Via.refl d11_30 ?_
    refine Go.icmpne C d11_33 (fun hc => absurd hc (by decide)) (fun _ => ?_)
    refine Go.aloadN C d11_36 rfl rfl ?_
    refine Go.getF C S.1 0 rfl rfl (host := "") (Or.inl (w_36 hW)) Via.refl d11_37 ?_
    refine Go.aloadN C d11_40 rfl rfl ?_
    refine Go.getF C T.1 0 rfl rfl (host := "") (Or.inl (w_36 hW)) Via.refl d11_41 ?_
    refine Go.callS C (z := y_5) (argsL := [(.ref ta), (.ref tb)]) (rm12 hW h (ta) (tb) (xs) (ys) SV TV) (w_67 hW) (w_68 hW) (w_69 hW) (w_70 hW) d11_44 pd_4 rfl (by decide) rfl (st := []) rfl (by decide) (Nat.le_of_ble_eq_true rfl) (by decide) (by decide) ((fun _ hx => nomatch hx)) (fun v1 h2 os3 q4 K5 ho6 => ?_)
    obtain ⟨rfl, rfl, rfl⟩ := q4
    clear K5 ho6
    show Go k h _ _ _ 47 #[.val (.ref a), .val (.ref b), .val (.ref b)] [(.int (if xs = ys then (1 : Int32) else 0))]
    refine Go.ifeq C d11_47 (fun hc47 => ?_) (fun hc47 => ?_)
    · refine Go.iconst C (0 : Int32) d11_54 (by decide) ?_
      refine Go.ireturn C d11_55 (Nat.le_of_ble_eq_true rfl) (Nat.le_of_ble_eq_true rfl) (by simp) rfl [] (fun _ hx => nomatch hx) ?_
      exact ⟨congrArg (fun z => some (Value.int z)) hc47.symm, rfl, rfl⟩
    · refine Go.iconst C (1 : Int32) d11_50 (by decide) ?_
      refine Go.goto C d11_51 ?_
      refine Go.ireturn C d11_55 (Nat.le_of_ble_eq_true rfl) (Nat.le_of_ble_eq_true rfl) (by simp) rfl [] (fun _ hx => nomatch hx) ?_
      exact ⟨congrArg (fun z => some (Value.int z)) (own_ite1 hc47).symm, rfl, rfl⟩
  · refine Go.iconst C (1 : Int32) d11_5 (by decide) ?_
    refine Go.ireturn C d11_6 (Nat.le_of_ble_eq_true rfl) (Nat.le_of_ble_eq_true rfl) (by simp) rfl [] (fun _ hx => nomatch hx) ?_
    subst hc2
    exact ⟨congrArg (fun z => some (Value.int z)) (if_pos (Str.det S T).2).symm, rfl, rfl⟩
def Q_rm_eqnull (Z : State) (h : Heap) (a : Addr) (ta : Addr) (xs : List Int32) : QT := fun v h' os' => (v = some (.int (0 : Int32))) ∧ (os' = []) ∧ (h = h')
set_option maxRecDepth 65536 in
set_option maxHeartbeats 40000000 in
theorem rm_eqnull {l : Launch} {Z : State} {a0 : Array Value} (hW : W0 Z a0) (h : Heap) (a : Addr) (ta : Addr) (xs : List Int32) (S : Str Z h a ta xs) :
    Con l Z own_EL true y_6 jdk_42_method_66_code 3 (some .boolean) ({ frames := 0, cells := 0, slots := 0, locals := 0 } : Room) [] #[(.ref a), .null] h [] (Q_rm_eqnull Z h a ta xs) := by
  refine Con.intro (a0 := a0) (Ls := #[.val (.ref a), .val .null, .unset]) (by decide +kernel) (own_ew hW) (fun m => by first | (simp [entryFrame, mkF, argsToLocals, Value.category]; done) | rfl) ?_
  intro k C
  refine Go.aloadN C d11_0 rfl rfl ?_
  refine Go.aloadN C d11_1 rfl rfl ?_
  refine Go.acmp C false d11_2 rfl rfl (decide_eq_false nofun) (pcN := 7) rfl ?_
  refine Go.aloadN C d11_7 rfl rfl ?_
  refine Go.instanceofNull C d11_8 ?_
  refine Go.ifeq C d11_11 (fun _ => ?_) (fun hc => absurd hc (by decide)) 
  refine Go.iconst C (0 : Int32) d11_54 (by decide) ?_
  refine Go.ireturn C d11_55 (Nat.le_of_ble_eq_true rfl) (Nat.le_of_ble_eq_true rfl) (by simp) rfl [] (fun _ hx => nomatch hx) ?_
  exact ⟨rfl, rfl, rfl⟩
def Q1 (Z : State) (h : Heap) (n : Int32) (p : Int32) (q : Int32) : QT := fun v h' os' => ∃ r : Addr, ∃ t : Addr, (v = some (.ref r)) ∧ (os' = []) ∧ (Str Z h' r t (List.map own_b (own_mk n p q)))
set_option maxRecDepth 65536 in
set_option maxHeartbeats 40000000 in
theorem rm1 {l : Launch} {Z : State} {a0 : Array Value} (hW : W0 Z a0) (h : Heap) (n : Int32) (p : Int32) (q : Int32) (hp : own_lat [p, q]) :
    Con l Z own_EL true y_7 method_2_code 3 (some (.object "java/lang/String")) ({ frames := 4, cells := 6, slots := 16, locals := 90 } : Room) [] #[(.int n), (.int p), (.int q)] h [] (Q1 Z h n p q) := by
  refine Con.intro (a0 := a0) (Ls := #[.val (.int n), .val (.int p), .val (.int q)]) (by decide +kernel) (own_ew hW) (fun m => by first | (simp [entryFrame, mkF, argsToLocals, Value.category]; done) | rfl) ?_
  intro k C
  refine Go.iloadN C d1_0 rfl ?_
  refine Go.ifne C d1_1 (fun hc1 => ?_) (fun hc1 => ?_)
  · refine Go.iloadN C d1_15 rfl ?_
    refine Go.iconst C (1 : Int32) d1_16 (by decide) ?_
    refine Go.icmpne C d1_17 (fun hc17 => ?_) (fun hc17 => ?_)
    · refine Go.new C (w_8 hW) (w_9 hW) (w_10 hW) (fl_0 hW) dv_0 d1_35 (by decide) (by decide) (fun b39 h40 e41 K42 O43 => ?_)
      refine Go.dup C d1_38 rfl ?_
      refine Go.iconst C (2 : Int32) d1_39 (by decide) ?_
      refine Go.newarray C (aty := .char) (w_11 hW) d1_40 (by decide) 2 rfl (cap := 2) (by decide) (by decide) (by decide) (by decide) (fun b44 h45 e46 K47 A48 => ?_)
      have A48 : Av Z h45 b44 .char [(.int (0 : Int32)), (.int (0 : Int32))] := A48
      have n_b39_b44 : b39 ≠ b44 := ne_lt O43.lt (ge_of e46)
      replace O43 := O43.k0 K47
      refine Go.dup C d1_42 rfl ?_
      refine Go.iconst C (0 : Int32) d1_43 (by decide) ?_
      refine Go.iloadN C d1_44 rfl ?_
      refine Go.castore C A48 (List.mem_of_getElem? (i := 0) rfl) 0 (by decide) rfl (Nat.le_of_ble_eq_true rfl) (x' := p) (own_nar_lat (hp p (List.mem_of_getElem? (i := 0) rfl))) (vs' := [(.int p), (.int (0 : Int32))]) rfl d1_45 (fun h49 K50 A48 => ?_)
      replace O43 := O43.keep K50 (ninS n_b39_b44 nin0)
      refine Go.dup C d1_46 rfl ?_
      refine Go.iconst C (1 : Int32) d1_47 (by decide) ?_
      refine Go.iloadN C d1_48 rfl ?_
      refine Go.castore C A48 (List.mem_of_getElem? (i := 0) rfl) 1 (by decide) rfl (Nat.le_of_ble_eq_true rfl) (x' := q) (own_nar_lat (hp q (List.mem_of_getElem? (i := 1) rfl))) (vs' := [(.int p), (.int q)]) rfl d1_49 (fun h51 K52 A48 => ?_)
      replace O43 := O43.keep K52 (ninS n_b39_b44 nin0)
      have A48 : Av Z h51 b44 .char (List.map Value.int ([p, q] : List Int32)) := A48
      refine Go.callI C (z := y_4) (a := b39) (argsL := [(.ref b44)]) (rm2 hW h51 (b39) (b44) ([p, q]) O43 A48 hp (Nat.le_of_ble_eq_true rfl) (Ne.symm n_b39_b44)) rfl (w_12 hW) (w_13 hW) (w_10 hW) (w_14 hW) d1_50 pd_5 rfl (by decide) rfl (st := [(.ref b39)]) rfl (by decide) (Nat.le_of_ble_eq_true rfl) (by decide) (by decide) (List.forall_mem_cons.mpr ⟨(List.mem_of_getElem? (i := 1) rfl), (fun _ hx => nomatch hx)⟩) (fun v53 h54 os55 q56 K57 ho58 => ?_)
      obtain ⟨t59, rfl, rfl, F60⟩ := q56
      replace A48 := A48.keep K57 (ninS (Ne.symm n_b39_b44) nin0)
      show Go k h54 _ _ _ 53 #[.val (.int n), .val (.int p), .val (.int q)] [(.ref b39)]
      refine Go.areturn C d1_53 (Nat.le_of_ble_eq_true rfl) (Nat.le_of_ble_eq_true rfl) rfl rfl [] (fun _ hx => nomatch hx) ?_
      exact ⟨_, _, rfl, rfl, by rw [own_mk2 hc1 hc17]; exact F60⟩
    · refine Go.new C (w_8 hW) (w_9 hW) (w_10 hW) (fl_0 hW) dv_0 d1_20 (by decide) (by decide) (fun b19 h20 e21 K22 O23 => ?_)
      refine Go.dup C d1_23 rfl ?_
      refine Go.iconst C (1 : Int32) d1_24 (by decide) ?_
      refine Go.newarray C (aty := .char) (w_11 hW) d1_25 (by decide) 1 rfl (cap := 1) (by decide) (by decide) (by decide) (by decide) (fun b24 h25 e26 K27 A28 => ?_)
      have A28 : Av Z h25 b24 .char [(.int (0 : Int32))] := A28
      have n_b19_b24 : b19 ≠ b24 := ne_lt O23.lt (ge_of e26)
      replace O23 := O23.k0 K27
      refine Go.dup C d1_27 rfl ?_
      refine Go.iconst C (0 : Int32) d1_28 (by decide) ?_
      refine Go.iloadN C d1_29 rfl ?_
      refine Go.castore C A28 (List.mem_of_getElem? (i := 0) rfl) 0 (by decide) rfl (Nat.le_of_ble_eq_true rfl) (x' := p) (own_nar_lat (hp p (List.mem_of_getElem? (i := 0) rfl))) (vs' := [(.int p)]) rfl d1_30 (fun h29 K30 A28 => ?_)
      replace O23 := O23.keep K30 (ninS n_b19_b24 nin0)
      have A28 : Av Z h29 b24 .char (List.map Value.int ([p] : List Int32)) := A28
      refine Go.callI C (z := y_4) (a := b19) (argsL := [(.ref b24)]) (rm2 hW h29 (b19) (b24) ([p]) O23 A28 (fun c hx => hp c (by simp at hx; simp [hx])) (Nat.le_of_ble_eq_true rfl) (Ne.symm n_b19_b24)) rfl (w_12 hW) (w_13 hW) (w_10 hW) (w_14 hW) d1_31 pd_5 rfl (by decide) rfl (st := [(.ref b19)]) rfl (by decide) (Nat.le_of_ble_eq_true rfl) (by decide) (by decide) (List.forall_mem_cons.mpr ⟨(List.mem_of_getElem? (i := 1) rfl), (fun _ hx => nomatch hx)⟩) (fun v31 h32 os33 q34 K35 ho36 => ?_)
      obtain ⟨t37, rfl, rfl, F38⟩ := q34
      replace A28 := A28.keep K35 (ninS (Ne.symm n_b19_b24) nin0)
      show Go k h32 _ _ _ 34 #[.val (.int n), .val (.int p), .val (.int q)] [(.ref b19)]
      refine Go.areturn C d1_34 (Nat.le_of_ble_eq_true rfl) (Nat.le_of_ble_eq_true rfl) rfl rfl [] (fun _ hx => nomatch hx) ?_
      exact ⟨_, _, rfl, rfl, by rw [own_mk1 hc1 hc17]; exact F38⟩
  · refine Go.new C (w_8 hW) (w_9 hW) (w_10 hW) (fl_0 hW) dv_0 d1_4 (by decide) (by decide) (fun b1 h2 e3 K4 O5 => ?_)
    refine Go.dup C d1_7 rfl ?_
    refine Go.iconst C (0 : Int32) d1_8 (by decide) ?_
    refine Go.newarray C (aty := .char) (w_11 hW) d1_9 (by decide) 0 rfl (cap := 0) (by decide) (by decide) (by decide) (by decide) (fun b6 h7 e8 K9 A10 => ?_)
    have A10 : Av Z h7 b6 .char [] := A10
    have n_b1_b6 : b1 ≠ b6 := ne_lt O5.lt (ge_of e8)
    replace O5 := O5.k0 K9
    have A10 : Av Z h7 b6 .char (List.map Value.int ([] : List Int32)) := A10
    refine Go.callI C (z := y_4) (a := b1) (argsL := [(.ref b6)]) (rm2 hW h7 (b1) (b6) ([]) O5 A10 (fun _ hx => nomatch hx) (Nat.le_of_ble_eq_true rfl) (Ne.symm n_b1_b6)) rfl (w_12 hW) (w_13 hW) (w_10 hW) (w_14 hW) d1_11 pd_5 rfl (by decide) rfl (st := [(.ref b1)]) rfl (by decide) (Nat.le_of_ble_eq_true rfl) (by decide) (by decide) (List.forall_mem_cons.mpr ⟨(List.mem_of_getElem? (i := 1) rfl), (fun _ hx => nomatch hx)⟩) (fun v11 h12 os13 q14 K15 ho16 => ?_)
    obtain ⟨t17, rfl, rfl, F18⟩ := q14
    replace A10 := A10.keep K15 (ninS (Ne.symm n_b1_b6) nin0)
    show Go k h12 _ _ _ 14 #[.val (.int n), .val (.int p), .val (.int q)] [(.ref b1)]
    refine Go.areturn C d1_14 (Nat.le_of_ble_eq_true rfl) (Nat.le_of_ble_eq_true rfl) rfl rfl [] (fun _ hx => nomatch hx) ?_
    exact ⟨_, _, rfl, rfl, by rw [own_mk0 hc1]; exact F18⟩
def Q9 (Z : State) (h : Heap) (x : Addr) : QT := fun v h' os' => (v = none) ∧ (os' = []) ∧ (h = h')
set_option maxRecDepth 65536 in
set_option maxHeartbeats 40000000 in
theorem rm9 {l : Launch} {Z : State} {a0 : Array Value} (hW : W0 Z a0) (h : Heap) (x : Addr) :
    Con l Z own_EL true y_8 jdk_30_method_1_code 1 none ({ frames := 1, cells := 0, slots := 0, locals := 12 } : Room) [] #[(.ref x)] h [] (Q9 Z h x) := by
  refine Con.intro (a0 := a0) (Ls := #[.val (.ref x)]) (by decide +kernel) (own_ew hW) (fun m => by first | (simp [entryFrame, mkF, argsToLocals, Value.category]; done) | rfl) ?_
  intro k C
  refine Go.aloadN C d9_0 rfl rfl ?_
  refine Go.initO C (w_49 hW) (w_20 hW) (w_21 hW) d9_1 rfl (by decide) (Nat.le_of_ble_eq_true rfl) ?_
  refine Go.retV C d9_4 (Nat.le_of_ble_eq_true rfl) (Nat.le_of_ble_eq_true rfl) [] (fun _ hx => nomatch hx) ?_
  exact ⟨rfl, rfl, rfl⟩
def Q8 (Z : State) (h : Heap) (t : Addr) (a : Addr) (b : Addr) : QT := fun v h' os' => (v = none) ∧ (os' = []) ∧ (Obj Z h' t "com/example/kapok/kapok/model/Token" f_1 [(.ref a), (.ref b)])
set_option maxRecDepth 65536 in
set_option maxHeartbeats 40000000 in
theorem rm8 {l : Launch} {Z : State} {a0 : Array Value} (hW : W0 Z a0) (h : Heap) (t : Addr) (a : Addr) (b : Addr) (O : Obj Z h t "com/example/kapok/kapok/model/Token" f_1 [.null, .null]) :
    Con l Z own_EL true y_9 prog_5_method_1_code 3 none ({ frames := 2, cells := 0, slots := 0, locals := 24 } : Room) [] #[(.ref t), (.ref a), (.ref b)] h [t] (Q8 Z h t a b) := by
  refine Con.intro (a0 := a0) (Ls := #[.val (.ref t), .val (.ref a), .val (.ref b)]) (by decide +kernel) (own_ew hW) (fun m => by first | (simp [entryFrame, mkF, argsToLocals, Value.category]; done) | rfl) ?_
  intro k C
  refine Go.aloadN C d8_0 rfl rfl ?_
  refine Go.callI C (z := y_8) (a := t) (argsL := []) (rm9 hW h (t)) rfl (w_44 hW) (w_45 hW) (w_47 hW) (w_48 hW) d8_1 pd_6 rfl (by decide) rfl (st := []) rfl (by decide) (Nat.le_of_ble_eq_true rfl) (by decide) (by decide) ((fun _ hx => nomatch hx)) (fun v1 h2 os3 q4 K5 ho6 => ?_)
  obtain ⟨rfl, rfl, rfl⟩ := q4
  clear K5 ho6
  show Go k h _ _ _ 4 #[.val (.ref t), .val (.ref a), .val (.ref b)] []
  refine Go.aloadN C d8_4 rfl rfl ?_
  refine Go.aloadN C d8_5 rfl rfl ?_
  refine Go.putF C O (List.mem_of_getElem? (i := 0) rfl) 0 rfl (w_50 hW) Via.refl (Or.inr ⟨w_51 hW, rfl, rfl⟩) (w_39 hW) (fl_1 hW) nd_1 (ty := (.object "com/example/kapok/kapok/model/Token$Kind")) (by decide +kernel) (v' := (.ref a)) rfl rfl (vs' := [(.ref a), .null]) rfl d8_6 (fun h7 K8 O => ?_)
  refine Go.aloadN C d8_9 rfl rfl ?_
  refine Go.aloadN C d8_10 rfl rfl ?_
  refine Go.putF C O (List.mem_of_getElem? (i := 0) rfl) 1 rfl (w_52 hW) Via.refl (Or.inr ⟨w_53 hW, rfl, rfl⟩) (w_39 hW) (fl_1 hW) nd_1 (ty := (.object "java/lang/String")) (by decide +kernel) (v' := (.ref b)) rfl rfl (vs' := [(.ref a), (.ref b)]) rfl d8_11 (fun h9 K10 O => ?_)
  refine Go.retV C d8_14 (Nat.le_of_ble_eq_true rfl) (Nat.le_of_ble_eq_true rfl) [] (fun _ hx => nomatch hx) ?_
  exact ⟨rfl, rfl, O⟩
def Q_rm_isE (Z : State) (h : Heap) (o : Addr) (a : Addr) (fE : Addr) (g : Value) : QT := fun v h' os' => (v = some (.int (0 : Int32))) ∧ (os' = []) ∧ (h = h')
set_option maxRecDepth 65536 in
set_option maxHeartbeats 40000000 in
theorem rm_isE {l : Launch} {Z : State} {a0 : Array Value} (hW : W0 Z a0) (h : Heap) (o : Addr) (a : Addr) (fE : Addr) (g : Value) (O : Obj Z h o "com/example/kapok/kapok/model/Token" f_1 [(.ref fE), (.ref a)]) (hg : g.isRef = true) (TE : Sta Z Z.heap "com/example/kapok/kapok/model/Token$Kind" "END" "Lcom/example/kapok/kapok/model/Token$Kind;" (.ref fE)) :
    Con l Z own_EL true y_10 prog_5_method_2_code 2 (some .boolean) ({ frames := 0, cells := 0, slots := 0, locals := 0 } : Room) [] #[(.ref o), g] h [] (Q_rm_isE Z h o a fE g) := by
  refine Con.intro (a0 := a0) (Ls := #[.val (.ref o), .val g]) (by decide +kernel) (own_ew hW) (fun m => by simp [entryFrame, mkF, argsToLocals, catI, catJ, catD, catR, catN, cat_ref hg]) ?_
  intro k C
  refine Go.aloadN C d10_0 rfl rfl ?_
  refine Go.getF C O 0 rfl rfl (host := "") (Or.inl (w_50 hW)) Via.refl d10_1 ?_
  refine Go.getS C TE (host := "") (Or.inl (w_59 hW)) Via.refl d10_4 ?_
  refine Go.acmp C true d10_7 rfl rfl (decide_eq_true rfl) (pcN := 25) rfl ?_
  refine Go.iconst C (0 : Int32) d10_25 (by decide) ?_
  refine Go.ireturn C d10_26 (Nat.le_of_ble_eq_true rfl) (Nat.le_of_ble_eq_true rfl) (by simp) rfl [] (fun _ hx => nomatch hx) ?_
  exact ⟨rfl, rfl, rfl⟩
def Q_rm_isN (Z : State) (h : Heap) (o : Addr) (kd : Addr) (fE : Addr) (a : Addr) (u : Addr) (xs : List Int32) : QT := fun v h' os' => (v = some (.int (0 : Int32))) ∧ (os' = []) ∧ (h = h')
set_option maxRecDepth 65536 in
set_option maxHeartbeats 40000000 in
theorem rm_isN {l : Launch} {Z : State} {a0 : Array Value} (hW : W0 Z a0) (h : Heap) (o : Addr) (kd : Addr) (fE : Addr) (a : Addr) (u : Addr) (xs : List Int32) (O : Obj Z h o "com/example/kapok/kapok/model/Token" f_1 [(.ref kd), (.ref a)]) (S : Str Z h a u xs) (TE : Sta Z Z.heap "com/example/kapok/kapok/model/Token$Kind" "END" "Lcom/example/kapok/kapok/model/Token$Kind;" (.ref fE)) (hke : kd ≠ fE) :
    Con l Z own_EL true y_10 prog_5_method_2_code 2 (some .boolean) ({ frames := 1, cells := 0, slots := 0, locals := 14 } : Room) [] #[(.ref o), .null] h [] (Q_rm_isN Z h o kd fE a u xs) := by
  refine Con.intro (a0 := a0) (Ls := #[.val (.ref o), .val .null]) (by decide +kernel) (own_ew hW) (fun m => by first | (simp [entryFrame, mkF, argsToLocals, Value.category]; done) | rfl) ?_
  intro k C
  refine Go.aloadN C d10_0 rfl rfl ?_
  refine Go.getF C O 0 rfl rfl (host := "") (Or.inl (w_50 hW)) Via.refl d10_1 ?_
  refine Go.getS C TE (host := "") (Or.inl (w_59 hW)) Via.refl d10_4 ?_
  refine Go.acmp C false d10_7 rfl rfl (decide_eq_false fun q => hke (Value.ref.inj q)) (pcN := 10) rfl ?_
  refine Go.aloadN C d10_10 rfl rfl ?_
  refine Go.getF C O 1 rfl rfl (host := "") (Or.inl (w_52 hW)) Via.refl d10_11 ?_
  refine Go.aloadN C d10_14 rfl rfl ?_
  refine Go.callV C (z := y_6) (zr := y_6) (a := a) (argsL := [.null]) (rm_eqnull hW h (a) (u) (xs) S) S.exa (w_61 hW) (w_62 hW) (fun hz => notFace_of_selects (args := #[]) (mvT hz (w_64 hW))) (w_64 hW) (w_63 hW) (w_10 hW) (w_65 hW) d10_15 pd_7 rfl (by decide) rfl (st := []) rfl (by decide) (Nat.le_of_ble_eq_true rfl) (by decide) (by decide) ((fun _ hx => nomatch hx)) (fun v1 h2 os3 q4 K5 ho6 => ?_)
  obtain ⟨rfl, rfl, rfl⟩ := q4
  clear K5 ho6
  show Go k h _ _ _ 18 #[.val (.ref o), .val .null] [(.int (0 : Int32))]
  refine Go.ifeq C d10_18 (fun _ => ?_) (fun hc => absurd hc (by decide)) 
  refine Go.iconst C (0 : Int32) d10_25 (by decide) ?_
  refine Go.ireturn C d10_26 (Nat.le_of_ble_eq_true rfl) (Nat.le_of_ble_eq_true rfl) (by simp) rfl [] (fun _ hx => nomatch hx) ?_
  exact ⟨rfl, rfl, rfl⟩
def Q_rm_isS (Z : State) (h : Heap) (o : Addr) (kd : Addr) (fE : Addr) (a : Addr) (u : Addr) (xs : List Int32) (e : Addr) (v : Addr) (ys : List Int32) : QT := fun v h' os' => (v = some (.int (if xs = ys then (1 : Int32) else 0))) ∧ (os' = []) ∧ (h = h')
set_option maxRecDepth 65536 in
set_option maxHeartbeats 40000000 in
theorem rm_isS {l : Launch} {Z : State} {a0 : Array Value} (hW : W0 Z a0) (h : Heap) (o : Addr) (kd : Addr) (fE : Addr) (a : Addr) (u : Addr) (xs : List Int32) (e : Addr) (v : Addr) (ys : List Int32) (O : Obj Z h o "com/example/kapok/kapok/model/Token" f_1 [(.ref kd), (.ref a)]) (S : Str Z h a u xs) (T : Str Z h e v ys) (TE : Sta Z Z.heap "com/example/kapok/kapok/model/Token$Kind" "END" "Lcom/example/kapok/kapok/model/Token$Kind;" (.ref fE)) (hke : kd ≠ fE) :
    Con l Z own_EL true y_10 prog_5_method_2_code 2 (some .boolean) ({ frames := 2, cells := 0, slots := 0, locals := 28 } : Room) [] #[(.ref o), (.ref e)] h [] (Q_rm_isS Z h o kd fE a u xs e v ys) := by
  refine Con.intro (a0 := a0) (Ls := #[.val (.ref o), .val (.ref e)]) (by decide +kernel) (own_ew hW) (fun m => by first | (simp [entryFrame, mkF, argsToLocals, Value.category]; done) | rfl) ?_
  intro k C
  refine Go.aloadN C d10_0 rfl rfl ?_
  refine Go.getF C O 0 rfl rfl (host := "") (Or.inl (w_50 hW)) Via.refl d10_1 ?_
  refine Go.getS C TE (host := "") (Or.inl (w_59 hW)) Via.refl d10_4 ?_
  refine Go.acmp C false d10_7 rfl rfl (decide_eq_false fun q => hke (Value.ref.inj q)) (pcN := 10) rfl ?_
  refine Go.aloadN C d10_10 rfl rfl ?_
  refine Go.getF C O 1 rfl rfl (host := "") (Or.inl (w_52 hW)) Via.refl d10_11 ?_
  refine Go.aloadN C d10_14 rfl rfl ?_
  refine Go.callV C (z := y_6) (zr := y_6) (a := a) (argsL := [(.ref e)]) (rm11 hW h (a) (e) (u) (v) (xs) (ys) S T) S.exa (w_61 hW) (w_62 hW) (fun hz => notFace_of_selects (args := #[]) (mvT hz (w_64 hW))) (w_64 hW) (w_63 hW) (w_10 hW) (w_65 hW) d10_15 pd_7 rfl (by decide) rfl (st := []) rfl (by decide) (Nat.le_of_ble_eq_true rfl) (by decide) (by decide) ((fun _ hx => nomatch hx)) (fun v1 h2 os3 q4 K5 ho6 => ?_)
  obtain ⟨rfl, rfl, rfl⟩ := q4
  clear K5 ho6
  show Go k h _ _ _ 18 #[.val (.ref o), .val (.ref e)] [(.int (if xs = ys then (1 : Int32) else 0))]
  refine Go.ifeq C d10_18 (fun hc18 => ?_) (fun hc18 => ?_)
  · refine Go.iconst C (0 : Int32) d10_25 (by decide) ?_
    refine Go.ireturn C d10_26 (Nat.le_of_ble_eq_true rfl) (Nat.le_of_ble_eq_true rfl) (by simp) rfl [] (fun _ hx => nomatch hx) ?_
    exact ⟨congrArg (fun z => some (Value.int z)) hc18.symm, rfl, rfl⟩
  · refine Go.iconst C (1 : Int32) d10_21 (by decide) ?_
    refine Go.goto C d10_22 ?_
    refine Go.ireturn C d10_26 (Nat.le_of_ble_eq_true rfl) (Nat.le_of_ble_eq_true rfl) (by simp) rfl [] (fun _ hx => nomatch hx) ?_
    exact ⟨congrArg (fun z => some (Value.int z)) (own_ite1 hc18).symm, rfl, rfl⟩
def Q0 (Z : State) (h : Heap) (kk : Int32) (tt : Int32) (ww : Int32) (mm : Int32) (fW : Addr) (fD : Addr) (fS : Addr) (fE : Addr) : QT := fun v h' os' => (v = some (.int (1 : Int32))) ∧ (os' = [])
set_option maxRecDepth 65536 in
set_option maxHeartbeats 40000000 in
theorem rm0 {l : Launch} {Z : State} {a0 : Array Value} (hW : W0 Z a0) (h : Heap) (kk : Int32) (tt : Int32) (ww : Int32) (mm : Int32) (fW : Addr) (fD : Addr) (fS : Addr) (fE : Addr) (TW : Sta Z Z.heap "com/example/kapok/kapok/model/Token$Kind" "WORD" "Lcom/example/kapok/kapok/model/Token$Kind;" (.ref fW)) (TD : Sta Z Z.heap "com/example/kapok/kapok/model/Token$Kind" "DEGREE" "Lcom/example/kapok/kapok/model/Token$Kind;" (.ref fD)) (TS : Sta Z Z.heap "com/example/kapok/kapok/model/Token$Kind" "SYMBOL" "Lcom/example/kapok/kapok/model/Token$Kind;" (.ref fS)) (TE : Sta Z Z.heap "com/example/kapok/kapok/model/Token$Kind" "END" "Lcom/example/kapok/kapok/model/Token$Kind;" (.ref fE)) (nW : fW ≠ fE) (nD : fD ≠ fE) (nS : fS ≠ fE) :
    Con l Z own_EL true x code 18 (some .boolean) room_1 tables_1 #[(.int kk), (.int tt), (.int ww), (.int mm)] h [] (Q0 Z h kk tt ww mm fW fD fS fE) := by
  refine Con.intro (a0 := a0) (Ls := #[.val (.int kk), .val (.int tt), .val (.int ww), .val (.int mm), .unset, .unset, .unset, .unset, .unset, .unset, .unset, .unset, .unset, .unset, .unset, .unset, .unset, .unset]) (by decide +kernel) (own_ew hW) (fun m => by first | (simp [entryFrame, mkF, argsToLocals, Value.category, maxLocals]; done) | rfl) ?_
  intro k C
  refine Go.iloadN C d0_0 rfl ?_
  refine Go.iconst C (3 : Int32) d0_1 (by decide) ?_
  refine Go.iand C d0_2 ?_
  generalize e_ki : (kk &&& (3 : Int32)) = ki
  have h_ki := own_k4 e_ki
  refine Go.istore C d0_3 (Ls' := #[.val (.int kk), .val (.int tt), .val (.int ww), .val (.int mm), .val (.int ki), .unset, .unset, .unset, .unset, .unset, .unset, .unset, .unset, .unset, .unset, .unset, .unset, .unset]) rfl ?_
  refine Go.iload C d0_5 rfl ?_
  suffices J7 : ∀ kd : Addr, (ki = 3 ∧ fE = kd) ∨ (¬ ki = 3 ∧ kd ≠ fE) → Go k h [] 0 0 51 #[.val (.int kk), .val (.int tt), .val (.int ww), .val (.int mm), .val (.int ki), .val (.ref kd), .unset, .unset, .unset, .unset, .unset, .unset, .unset, .unset, .unset, .unset, .unset, .unset] [] by
    refine Go.ifne C d0_7 (fun hc7 => ?_) (fun hc7 => ?_)
    · refine Go.iload C d0_18 rfl ?_
      refine Go.iconst C (1 : Int32) d0_20 (by decide) ?_
      refine Go.icmpne C d0_21 (fun hc21 => ?_) (fun hc21 => ?_)
      · refine Go.iload C d0_32 rfl ?_
        refine Go.iconst C (2 : Int32) d0_34 (by decide) ?_
        refine Go.icmpne C d0_35 (fun hc35 => ?_) (fun hc35 => ?_)
        · refine Go.getS C TE (host := "") (Or.inl (w_71 hW)) Via.refl d0_46 ?_
          refine Go.astore C d0_49 rfl (Ls' := #[.val (.int kk), .val (.int tt), .val (.int ww), .val (.int mm), .val (.int ki), .val (.ref fE), .unset, .unset, .unset, .unset, .unset, .unset, .unset, .unset, .unset, .unset, .unset, .unset]) rfl ?_
          exact J7 _ (Or.inl ⟨own_k3 h_ki hc7 hc21 hc35, rfl⟩)
        · refine Go.getS C TS (host := "") (Or.inl (w_72 hW)) Via.refl d0_38 ?_
          refine Go.astore C d0_41 rfl (Ls' := #[.val (.int kk), .val (.int tt), .val (.int ww), .val (.int mm), .val (.int ki), .val (.ref fS), .unset, .unset, .unset, .unset, .unset, .unset, .unset, .unset, .unset, .unset, .unset, .unset]) rfl ?_
          refine Go.goto C d0_43 ?_
          exact J7 _ (Or.inr ⟨own_k2 hc35, nS⟩)
      · refine Go.getS C TD (host := "") (Or.inl (w_74 hW)) Via.refl d0_24 ?_
        refine Go.astore C d0_27 rfl (Ls' := #[.val (.int kk), .val (.int tt), .val (.int ww), .val (.int mm), .val (.int ki), .val (.ref fD), .unset, .unset, .unset, .unset, .unset, .unset, .unset, .unset, .unset, .unset, .unset, .unset]) rfl ?_
        refine Go.goto C d0_29 ?_
        exact J7 _ (Or.inr ⟨own_k1 hc21, nD⟩)
    · refine Go.getS C TW (host := "") (Or.inl (w_0 hW)) Via.refl d0_10 ?_
      refine Go.astore C d0_13 rfl (Ls' := #[.val (.int kk), .val (.int tt), .val (.int ww), .val (.int mm), .val (.int ki), .val (.ref fW), .unset, .unset, .unset, .unset, .unset, .unset, .unset, .unset, .unset, .unset, .unset, .unset]) rfl ?_
      refine Go.goto C d0_15 ?_
      exact J7 _ (Or.inr ⟨own_k0 hc7, nW⟩)
  intro kd hkd
  refine Go.iloadN C d0_51 rfl ?_
  refine Go.ldcI C (w_3 hW) d0_52 ?_
  refine Go.iand C d0_54 ?_
  refine Go.iconst C (3 : Int32) d0_55 (by decide) ?_
  refine Go.irem C d0_56 (by decide) ?_
  generalize e_lt : ((mm &&& (2147483647 : Int32)) % (3 : Int32)) = lt
  have h_lt := own_m31 e_lt
  refine Go.istore C d0_57 (Ls' := #[.val (.int kk), .val (.int tt), .val (.int ww), .val (.int mm), .val (.int ki), .val (.ref kd), .val (.int lt), .unset, .unset, .unset, .unset, .unset, .unset, .unset, .unset, .unset, .unset, .unset]) rfl ?_
  refine Go.iload C d0_59 rfl ?_
  refine Go.istore C d0_61 (Ls' := #[.val (.int kk), .val (.int tt), .val (.int ww), .val (.int mm), .val (.int ki), .val (.ref kd), .val (.int lt), .val (.int lt), .unset, .unset, .unset, .unset, .unset, .unset, .unset, .unset, .unset, .unset]) rfl ?_
  refine Go.iloadN C d0_63 rfl ?_
  refine Go.iconst C (4 : Int32) d0_64 (by decide) ?_
  refine Go.iushr C d0_65 ?_
  refine Go.iconst C (1 : Int32) d0_66 (by decide) ?_
  refine Go.iand C d0_67 ?_
  suffices J68 : ∀ lw : Int32, (lw = 0 ∨ lw = 1 ∨ lw = 2) → Go k h [] 0 0 81 #[.val (.int kk), .val (.int tt), .val (.int ww), .val (.int mm), .val (.int ki), .val (.ref kd), .val (.int lt), .val (.int lw), .unset, .unset, .unset, .unset, .unset, .unset, .unset, .unset, .unset, .unset] [] by
    refine Go.ifeq C d0_68 (fun hc68 => ?_) (fun hc68 => ?_)
    · exact J68 _ h_lt
    · refine Go.iloadN C d0_71 rfl ?_
      refine Go.iconst C (5 : Int32) d0_72 (by decide) ?_
      refine Go.iushr C d0_73 ?_
      refine Go.ldcI C (w_3 hW) d0_74 ?_
      refine Go.iand C d0_76 ?_
      refine Go.iconst C (3 : Int32) d0_77 (by decide) ?_
      refine Go.irem C d0_78 (by decide) ?_
      refine Go.istore C d0_79 (Ls' := #[.val (.int kk), .val (.int tt), .val (.int ww), .val (.int mm), .val (.int ki), .val (.ref kd), .val (.int lt), .val (.int ((((mm.toUInt32 >>> ((5 : Int32) &&& 31).toUInt32).toInt32) &&& (2147483647 : Int32)) % (3 : Int32))), .unset, .unset, .unset, .unset, .unset, .unset, .unset, .unset, .unset, .unset]) rfl ?_
      exact J68 _ (own_m31 rfl)
  intro lw h_lw
  refine Go.iloadN C d0_81 rfl ?_
  refine Go.sipush C (255 : Int32) d0_82 (by decide) ?_
  refine Go.iand C d0_85 ?_
  refine Go.i2c C d0_86 ?_
  generalize e_tc0 : ((tt &&& (255 : Int32)).toUInt32.toUInt16.toUInt32.toInt32) = tc0
  have h_tc0 := own_c8i e_tc0
  refine Go.istore C d0_87 (Ls' := #[.val (.int kk), .val (.int tt), .val (.int ww), .val (.int mm), .val (.int ki), .val (.ref kd), .val (.int lt), .val (.int lw), .val (.int tc0), .unset, .unset, .unset, .unset, .unset, .unset, .unset, .unset, .unset]) rfl ?_
  refine Go.iloadN C d0_89 rfl ?_
  refine Go.bipush C (8 : Int32) d0_90 (by decide) ?_
  refine Go.iushr C d0_92 ?_
  refine Go.sipush C (255 : Int32) d0_93 (by decide) ?_
  refine Go.iand C d0_96 ?_
  refine Go.i2c C d0_97 ?_
  generalize e_tc1 : ((((tt.toUInt32 >>> ((8 : Int32) &&& 31).toUInt32).toInt32) &&& (255 : Int32)).toUInt32.toUInt16.toUInt32.toInt32) = tc1
  have h_tc1 := own_c8i e_tc1
  refine Go.istore C d0_98 (Ls' := #[.val (.int kk), .val (.int tt), .val (.int ww), .val (.int mm), .val (.int ki), .val (.ref kd), .val (.int lt), .val (.int lw), .val (.int tc0), .val (.int tc1), .unset, .unset, .unset, .unset, .unset, .unset, .unset, .unset]) rfl ?_
  refine Go.iload C d0_100 rfl ?_
  refine Go.istore C d0_102 (Ls' := #[.val (.int kk), .val (.int tt), .val (.int ww), .val (.int mm), .val (.int ki), .val (.ref kd), .val (.int lt), .val (.int lw), .val (.int tc0), .val (.int tc1), .val (.int tc0), .unset, .unset, .unset, .unset, .unset, .unset, .unset]) rfl ?_
  refine Go.iload C d0_104 rfl ?_
  refine Go.istore C d0_106 (Ls' := #[.val (.int kk), .val (.int tt), .val (.int ww), .val (.int mm), .val (.int ki), .val (.ref kd), .val (.int lt), .val (.int lw), .val (.int tc0), .val (.int tc1), .val (.int tc0), .val (.int tc1), .unset, .unset, .unset, .unset, .unset, .unset]) rfl ?_
  refine Go.iloadN C d0_108 rfl ?_
  refine Go.bipush C (8 : Int32) d0_109 (by decide) ?_
  refine Go.iushr C d0_111 ?_
  refine Go.iconst C (1 : Int32) d0_112 (by decide) ?_
  refine Go.iand C d0_113 ?_
  suffices J114 : ∀ wc0 wc1 : Int32, own_L wc0 → own_L wc1 → Go k h [] 0 0 136 #[.val (.int kk), .val (.int tt), .val (.int ww), .val (.int mm), .val (.int ki), .val (.ref kd), .val (.int lt), .val (.int lw), .val (.int tc0), .val (.int tc1), .val (.int wc0), .val (.int wc1), .unset, .unset, .unset, .unset, .unset, .unset] [] by
    refine Go.ifeq C d0_114 (fun hc114 => ?_) (fun hc114 => ?_)
    · exact J114 _ _ h_tc0 h_tc1
    · refine Go.iloadN C d0_117 rfl ?_
      refine Go.sipush C (255 : Int32) d0_118 (by decide) ?_
      refine Go.iand C d0_121 ?_
      refine Go.i2c C d0_122 ?_
      refine Go.istore C d0_123 (Ls' := #[.val (.int kk), .val (.int tt), .val (.int ww), .val (.int mm), .val (.int ki), .val (.ref kd), .val (.int lt), .val (.int lw), .val (.int tc0), .val (.int tc1), .val (.int ((ww &&& (255 : Int32)).toUInt32.toUInt16.toUInt32.toInt32)), .val (.int tc1), .unset, .unset, .unset, .unset, .unset, .unset]) rfl ?_
      refine Go.iloadN C d0_125 rfl ?_
      refine Go.bipush C (8 : Int32) d0_126 (by decide) ?_
      refine Go.iushr C d0_128 ?_
      refine Go.sipush C (255 : Int32) d0_129 (by decide) ?_
      refine Go.iand C d0_132 ?_
      refine Go.i2c C d0_133 ?_
      refine Go.istore C d0_134 (Ls' := #[.val (.int kk), .val (.int tt), .val (.int ww), .val (.int mm), .val (.int ki), .val (.ref kd), .val (.int lt), .val (.int lw), .val (.int tc0), .val (.int tc1), .val (.int ((ww &&& (255 : Int32)).toUInt32.toUInt16.toUInt32.toInt32)), .val (.int ((((ww.toUInt32 >>> ((8 : Int32) &&& 31).toUInt32).toInt32) &&& (255 : Int32)).toUInt32.toUInt16.toUInt32.toInt32)), .unset, .unset, .unset, .unset, .unset, .unset]) rfl ?_
      exact J114 _ _ (own_c8i rfl) (own_c8i rfl)
  intro wc0 wc1 h_wc0 h_wc1
  refine Go.iloadN C d0_136 rfl ?_
  refine Go.bipush C (9 : Int32) d0_137 (by decide) ?_
  refine Go.iushr C d0_139 ?_
  refine Go.bipush C (7 : Int32) d0_140 (by decide) ?_
  refine Go.iand C d0_142 ?_
  refine Go.bipush C (7 : Int32) d0_143 (by decide) ?_
  suffices J145 : ∀ (nl : Int32), nl = 0 ∨ nl = 1 → Go k h [] 0 0 153 #[.val (.int kk), .val (.int tt), .val (.int ww), .val (.int mm), .val (.int ki), .val (.ref kd), .val (.int lt), .val (.int lw), .val (.int tc0), .val (.int tc1), .val (.int wc0), .val (.int wc1), .unset, .unset, .unset, .unset, .unset, .unset] [(.int nl)] by
    refine Go.icmpne C d0_145 (fun hc145 => ?_) (fun hc145 => ?_)
    · refine Go.iconst C (0 : Int32) d0_152 (by decide) ?_
      exact Go.more (Nat.le_of_ble_eq_true rfl) (Nat.le_of_ble_eq_true rfl) (Go.less (os' := []) (fun x hx => hx) (J145 (0 : Int32) (by decide)))
    · refine Go.iconst C (1 : Int32) d0_148 (by decide) ?_
      refine Go.goto C d0_149 ?_
      exact Go.more (Nat.le_of_ble_eq_true rfl) (Nat.le_of_ble_eq_true rfl) (Go.less (os' := []) (fun x hx => hx) (J145 (1 : Int32) (by decide)))
  intro nl hnl
  refine Go.istore C d0_153 (Ls' := #[.val (.int kk), .val (.int tt), .val (.int ww), .val (.int mm), .val (.int ki), .val (.ref kd), .val (.int lt), .val (.int lw), .val (.int tc0), .val (.int tc1), .val (.int wc0), .val (.int wc1), .val (.int nl), .unset, .unset, .unset, .unset, .unset]) rfl ?_
  refine Go.iload C d0_155 rfl ?_
  refine Go.iload C d0_157 rfl ?_
  refine Go.iload C d0_159 rfl ?_
  refine Go.callS C (z := y_7) (argsL := [(.int lt), (.int tc0), (.int tc1)]) (rm1 hW h (lt) (tc0) (tc1) (own_lat2 h_tc0 h_tc1)) (w_4 hW) (w_5 hW) (w_6 hW) (w_7 hW) d0_161 pd_8 rfl (by decide) rfl (st := []) rfl (by decide) (Nat.le_of_ble_eq_true rfl) (by decide) (by decide) ((fun _ hx => nomatch hx)) (fun v2 h3 os4 q5 K6 ho7 => ?_)
  obtain ⟨r8, t9, rfl, rfl, F10⟩ := q5
  show Go k h3 _ _ _ 164 #[.val (.int kk), .val (.int tt), .val (.int ww), .val (.int mm), .val (.int ki), .val (.ref kd), .val (.int lt), .val (.int lw), .val (.int tc0), .val (.int tc1), .val (.int wc0), .val (.int wc1), .val (.int nl), .unset, .unset, .unset, .unset, .unset] [(.ref r8)]
  refine Go.astore C d0_164 rfl (Ls' := #[.val (.int kk), .val (.int tt), .val (.int ww), .val (.int mm), .val (.int ki), .val (.ref kd), .val (.int lt), .val (.int lw), .val (.int tc0), .val (.int tc1), .val (.int wc0), .val (.int wc1), .val (.int nl), .val (.ref r8), .unset, .unset, .unset, .unset]) rfl ?_
  refine Go.iload C d0_166 rfl ?_
  rcases hkd with ⟨hk3, rfl⟩ | ⟨hk3, hke⟩ <;> rcases hnl with rfl | rfl
  · refine Go.ifeq C d0_168 (fun _ => ?_) (fun hc => absurd hc (by decide)) 
    refine Go.iload C d0_175 rfl ?_
    refine Go.iload C d0_177 rfl ?_
    refine Go.iload C d0_179 rfl ?_
    refine Go.callS C (z := y_7) (argsL := [(.int lw), (.int wc0), (.int wc1)]) (rm1 hW h3 (lw) (wc0) (wc1) (own_lat2 h_wc0 h_wc1)) (w_4 hW) (w_5 hW) (w_6 hW) (w_7 hW) d0_181 pd_8 rfl (by decide) rfl (st := []) rfl (by decide) (Nat.le_of_ble_eq_true rfl) (by decide) (by decide) ((fun _ hx => nomatch hx)) (fun v11 h12 os13 q14 K15 ho16 => ?_)
    obtain ⟨r17, t18, rfl, rfl, F19⟩ := q14
    replace F10 := F10.k0 K15
    show Go k h12 _ _ _ 184 #[.val (.int kk), .val (.int tt), .val (.int ww), .val (.int mm), .val (.int ki), .val (.ref fE), .val (.int lt), .val (.int lw), .val (.int tc0), .val (.int tc1), .val (.int wc0), .val (.int wc1), .val (.int (0 : Int32)), .val (.ref r8), .unset, .unset, .unset, .unset] [(.ref r17)]
    refine Go.astore C d0_184 rfl (Ls' := #[.val (.int kk), .val (.int tt), .val (.int ww), .val (.int mm), .val (.int ki), .val (.ref fE), .val (.int lt), .val (.int lw), .val (.int tc0), .val (.int tc1), .val (.int wc0), .val (.int wc1), .val (.int (0 : Int32)), .val (.ref r8), .val (.ref r17), .unset, .unset, .unset]) rfl ?_
    refine Go.new C (w_38 hW) (w_39 hW) (w_40 hW) (fl_1 hW) dv_1 d0_186 (by decide) (by decide) (fun b20 h21 e22 K23 O24 => ?_)
    have n_r8_b20 : r8 ≠ b20 := ne_lt F10.lt (ge_of e22)
    have n_t9_b20 : t9 ≠ b20 := ne_lt F10.lt1 (ge_of e22)
    have n_r17_b20 : r17 ≠ b20 := ne_lt F19.lt (ge_of e22)
    have n_t18_b20 : t18 ≠ b20 := ne_lt F19.lt1 (ge_of e22)
    replace F10 := F10.k0 K23
    replace F19 := F19.k0 K23
    refine Go.dup C d0_189 rfl ?_
    refine Go.aload C d0_190 rfl rfl ?_
    refine Go.aload C d0_192 rfl rfl ?_
    refine Go.callI C (z := y_9) (a := b20) (argsL := [(.ref fE), (.ref r8)]) (rm8 hW h21 (b20) (fE) (r8) O24) rfl (w_41 hW) (w_42 hW) (w_40 hW) (w_43 hW) d0_194 pd_9 rfl (by decide) rfl (st := [(.ref b20)]) rfl (by decide) (Nat.le_of_ble_eq_true rfl) (by decide) (by decide) (List.forall_mem_cons.mpr ⟨(List.mem_of_getElem? (i := 0) rfl), (fun _ hx => nomatch hx)⟩) (fun v25 h26 os27 q28 K29 ho30 => ?_)
    obtain ⟨rfl, rfl, F31⟩ := q28
    replace F10 := F10.keep K29 (ninS n_r8_b20 nin0) (ninS n_t9_b20 nin0)
    replace F19 := F19.keep K29 (ninS n_r17_b20 nin0) (ninS n_t18_b20 nin0)
    show Go k h26 _ _ _ 197 #[.val (.int kk), .val (.int tt), .val (.int ww), .val (.int mm), .val (.int ki), .val (.ref fE), .val (.int lt), .val (.int lw), .val (.int tc0), .val (.int tc1), .val (.int wc0), .val (.int wc1), .val (.int (0 : Int32)), .val (.ref r8), .val (.ref r17), .unset, .unset, .unset] [(.ref b20)]
    refine Go.astore C d0_197 rfl (Ls' := #[.val (.int kk), .val (.int tt), .val (.int ww), .val (.int mm), .val (.int ki), .val (.ref fE), .val (.int lt), .val (.int lw), .val (.int tc0), .val (.int tc1), .val (.int wc0), .val (.int wc1), .val (.int (0 : Int32)), .val (.ref r8), .val (.ref r17), .val (.ref b20), .unset, .unset]) rfl ?_
    refine Go.aload C d0_199 rfl rfl ?_
    refine Go.aload C d0_201 rfl rfl ?_
    refine Go.callV C (z := y_10) (zr := y_10) (a := b20) (argsL := [(.ref r17)]) (rm_isE hW h26 (b20) (r8) (fE) ((.ref r17)) F31 rfl TE) F31.1 (w_54 hW) (w_55 hW) (fun hz => notFace_of_selects (args := #[]) (mvT hz (w_57 hW))) (w_57 hW) (w_56 hW) (w_40 hW) (w_58 hW) d0_203 pd_10 rfl (by decide) rfl (st := []) rfl (by decide) (Nat.le_of_ble_eq_true rfl) (by decide) (by decide) ((fun _ hx => nomatch hx)) (fun v32 h33 os34 q35 K36 ho37 => ?_)
    obtain ⟨rfl, rfl, rfl⟩ := q35
    clear K36 ho37
    show Go k h26 _ _ _ 206 #[.val (.int kk), .val (.int tt), .val (.int ww), .val (.int mm), .val (.int ki), .val (.ref fE), .val (.int lt), .val (.int lw), .val (.int tc0), .val (.int tc1), .val (.int wc0), .val (.int wc1), .val (.int (0 : Int32)), .val (.ref r8), .val (.ref r17), .val (.ref b20), .unset, .unset] [(.int (0 : Int32))]
    refine Go.istore C d0_206 (Ls' := #[.val (.int kk), .val (.int tt), .val (.int ww), .val (.int mm), .val (.int ki), .val (.ref fE), .val (.int lt), .val (.int lw), .val (.int tc0), .val (.int tc1), .val (.int wc0), .val (.int wc1), .val (.int (0 : Int32)), .val (.ref r8), .val (.ref r17), .val (.ref b20), .val (.int (0 : Int32)), .unset]) rfl ?_
    refine Go.iload C d0_208 rfl ?_
    refine Go.iconst C (3 : Int32) d0_210 (by decide) ?_
    refine Go.icmpeq C d0_211 (fun hc211 => ?_) (fun hc211 => absurd hk3 hc211)
    refine Go.iconst C (0 : Int32) d0_256 (by decide) ?_
    refine Go.istore C d0_257 (Ls' := #[.val (.int kk), .val (.int tt), .val (.int ww), .val (.int mm), .val (.int ki), .val (.ref fE), .val (.int lt), .val (.int lw), .val (.int tc0), .val (.int tc1), .val (.int wc0), .val (.int wc1), .val (.int (0 : Int32)), .val (.ref r8), .val (.ref r17), .val (.ref b20), .val (.int (0 : Int32)), .val (.int (0 : Int32))]) rfl ?_
    refine Go.iload C d0_259 rfl ?_
    refine Go.iload C d0_261 rfl ?_
    refine Go.icmpne C d0_263 (fun hc => absurd hc (by decide)) (fun _ => ?_)
    refine Go.iconst C (1 : Int32) d0_266 (by decide) ?_
    refine Go.goto C d0_267 ?_
    refine Go.ireturn C d0_271 (Nat.le_of_ble_eq_true rfl) (Nat.le_of_ble_eq_true rfl) (by simp) rfl [] (fun _ hx => nomatch hx) ?_
    exact ⟨rfl, rfl⟩
  · refine Go.ifeq C d0_168 (fun hc => absurd hc (by decide)) (fun _ => ?_)
    refine Go.aconstNull C d0_171 ?_
    refine Go.goto C d0_172 ?_
    refine Go.astore C d0_184 rfl (Ls' := #[.val (.int kk), .val (.int tt), .val (.int ww), .val (.int mm), .val (.int ki), .val (.ref fE), .val (.int lt), .val (.int lw), .val (.int tc0), .val (.int tc1), .val (.int wc0), .val (.int wc1), .val (.int (1 : Int32)), .val (.ref r8), .val .null, .unset, .unset, .unset]) rfl ?_
    refine Go.new C (w_38 hW) (w_39 hW) (w_40 hW) (fl_1 hW) dv_1 d0_186 (by decide) (by decide) (fun b38 h39 e40 K41 O42 => ?_)
    have n_r8_b38 : r8 ≠ b38 := ne_lt F10.lt (ge_of e40)
    have n_t9_b38 : t9 ≠ b38 := ne_lt F10.lt1 (ge_of e40)
    replace F10 := F10.k0 K41
    refine Go.dup C d0_189 rfl ?_
    refine Go.aload C d0_190 rfl rfl ?_
    refine Go.aload C d0_192 rfl rfl ?_
    refine Go.callI C (z := y_9) (a := b38) (argsL := [(.ref fE), (.ref r8)]) (rm8 hW h39 (b38) (fE) (r8) O42) rfl (w_41 hW) (w_42 hW) (w_40 hW) (w_43 hW) d0_194 pd_9 rfl (by decide) rfl (st := [(.ref b38)]) rfl (by decide) (Nat.le_of_ble_eq_true rfl) (by decide) (by decide) (List.forall_mem_cons.mpr ⟨(List.mem_of_getElem? (i := 0) rfl), (fun _ hx => nomatch hx)⟩) (fun v43 h44 os45 q46 K47 ho48 => ?_)
    obtain ⟨rfl, rfl, F49⟩ := q46
    replace F10 := F10.keep K47 (ninS n_r8_b38 nin0) (ninS n_t9_b38 nin0)
    show Go k h44 _ _ _ 197 #[.val (.int kk), .val (.int tt), .val (.int ww), .val (.int mm), .val (.int ki), .val (.ref fE), .val (.int lt), .val (.int lw), .val (.int tc0), .val (.int tc1), .val (.int wc0), .val (.int wc1), .val (.int (1 : Int32)), .val (.ref r8), .val .null, .unset, .unset, .unset] [(.ref b38)]
    refine Go.astore C d0_197 rfl (Ls' := #[.val (.int kk), .val (.int tt), .val (.int ww), .val (.int mm), .val (.int ki), .val (.ref fE), .val (.int lt), .val (.int lw), .val (.int tc0), .val (.int tc1), .val (.int wc0), .val (.int wc1), .val (.int (1 : Int32)), .val (.ref r8), .val .null, .val (.ref b38), .unset, .unset]) rfl ?_
    refine Go.aload C d0_199 rfl rfl ?_
    refine Go.aload C d0_201 rfl rfl ?_
    refine Go.callV C (z := y_10) (zr := y_10) (a := b38) (argsL := [.null]) (rm_isE hW h44 (b38) (r8) (fE) (.null) F49 rfl TE) F49.1 (w_54 hW) (w_55 hW) (fun hz => notFace_of_selects (args := #[]) (mvT hz (w_57 hW))) (w_57 hW) (w_56 hW) (w_40 hW) (w_58 hW) d0_203 pd_10 rfl (by decide) rfl (st := []) rfl (by decide) (Nat.le_of_ble_eq_true rfl) (by decide) (by decide) ((fun _ hx => nomatch hx)) (fun v50 h51 os52 q53 K54 ho55 => ?_)
    obtain ⟨rfl, rfl, rfl⟩ := q53
    clear K54 ho55
    show Go k h44 _ _ _ 206 #[.val (.int kk), .val (.int tt), .val (.int ww), .val (.int mm), .val (.int ki), .val (.ref fE), .val (.int lt), .val (.int lw), .val (.int tc0), .val (.int tc1), .val (.int wc0), .val (.int wc1), .val (.int (1 : Int32)), .val (.ref r8), .val .null, .val (.ref b38), .unset, .unset] [(.int (0 : Int32))]
    refine Go.istore C d0_206 (Ls' := #[.val (.int kk), .val (.int tt), .val (.int ww), .val (.int mm), .val (.int ki), .val (.ref fE), .val (.int lt), .val (.int lw), .val (.int tc0), .val (.int tc1), .val (.int wc0), .val (.int wc1), .val (.int (1 : Int32)), .val (.ref r8), .val .null, .val (.ref b38), .val (.int (0 : Int32)), .unset]) rfl ?_
    refine Go.iload C d0_208 rfl ?_
    refine Go.iconst C (3 : Int32) d0_210 (by decide) ?_
    refine Go.icmpeq C d0_211 (fun hc211 => ?_) (fun hc211 => absurd hk3 hc211)
    refine Go.iconst C (0 : Int32) d0_256 (by decide) ?_
    refine Go.istore C d0_257 (Ls' := #[.val (.int kk), .val (.int tt), .val (.int ww), .val (.int mm), .val (.int ki), .val (.ref fE), .val (.int lt), .val (.int lw), .val (.int tc0), .val (.int tc1), .val (.int wc0), .val (.int wc1), .val (.int (1 : Int32)), .val (.ref r8), .val .null, .val (.ref b38), .val (.int (0 : Int32)), .val (.int (0 : Int32))]) rfl ?_
    refine Go.iload C d0_259 rfl ?_
    refine Go.iload C d0_261 rfl ?_
    refine Go.icmpne C d0_263 (fun hc => absurd hc (by decide)) (fun _ => ?_)
    refine Go.iconst C (1 : Int32) d0_266 (by decide) ?_
    refine Go.goto C d0_267 ?_
    refine Go.ireturn C d0_271 (Nat.le_of_ble_eq_true rfl) (Nat.le_of_ble_eq_true rfl) (by simp) rfl [] (fun _ hx => nomatch hx) ?_
    exact ⟨rfl, rfl⟩
  · refine Go.ifeq C d0_168 (fun _ => ?_) (fun hc => absurd hc (by decide)) 
    refine Go.iload C d0_175 rfl ?_
    refine Go.iload C d0_177 rfl ?_
    refine Go.iload C d0_179 rfl ?_
    refine Go.callS C (z := y_7) (argsL := [(.int lw), (.int wc0), (.int wc1)]) (rm1 hW h3 (lw) (wc0) (wc1) (own_lat2 h_wc0 h_wc1)) (w_4 hW) (w_5 hW) (w_6 hW) (w_7 hW) d0_181 pd_8 rfl (by decide) rfl (st := []) rfl (by decide) (Nat.le_of_ble_eq_true rfl) (by decide) (by decide) ((fun _ hx => nomatch hx)) (fun v56 h57 os58 q59 K60 ho61 => ?_)
    obtain ⟨r62, t63, rfl, rfl, F64⟩ := q59
    replace F10 := F10.k0 K60
    show Go k h57 _ _ _ 184 #[.val (.int kk), .val (.int tt), .val (.int ww), .val (.int mm), .val (.int ki), .val (.ref kd), .val (.int lt), .val (.int lw), .val (.int tc0), .val (.int tc1), .val (.int wc0), .val (.int wc1), .val (.int (0 : Int32)), .val (.ref r8), .unset, .unset, .unset, .unset] [(.ref r62)]
    refine Go.astore C d0_184 rfl (Ls' := #[.val (.int kk), .val (.int tt), .val (.int ww), .val (.int mm), .val (.int ki), .val (.ref kd), .val (.int lt), .val (.int lw), .val (.int tc0), .val (.int tc1), .val (.int wc0), .val (.int wc1), .val (.int (0 : Int32)), .val (.ref r8), .val (.ref r62), .unset, .unset, .unset]) rfl ?_
    refine Go.new C (w_38 hW) (w_39 hW) (w_40 hW) (fl_1 hW) dv_1 d0_186 (by decide) (by decide) (fun b65 h66 e67 K68 O69 => ?_)
    have n_r8_b65 : r8 ≠ b65 := ne_lt F10.lt (ge_of e67)
    have n_t9_b65 : t9 ≠ b65 := ne_lt F10.lt1 (ge_of e67)
    have n_r62_b65 : r62 ≠ b65 := ne_lt F64.lt (ge_of e67)
    have n_t63_b65 : t63 ≠ b65 := ne_lt F64.lt1 (ge_of e67)
    replace F10 := F10.k0 K68
    replace F64 := F64.k0 K68
    refine Go.dup C d0_189 rfl ?_
    refine Go.aload C d0_190 rfl rfl ?_
    refine Go.aload C d0_192 rfl rfl ?_
    refine Go.callI C (z := y_9) (a := b65) (argsL := [(.ref kd), (.ref r8)]) (rm8 hW h66 (b65) (kd) (r8) O69) rfl (w_41 hW) (w_42 hW) (w_40 hW) (w_43 hW) d0_194 pd_9 rfl (by decide) rfl (st := [(.ref b65)]) rfl (by decide) (Nat.le_of_ble_eq_true rfl) (by decide) (by decide) (List.forall_mem_cons.mpr ⟨(List.mem_of_getElem? (i := 0) rfl), (fun _ hx => nomatch hx)⟩) (fun v70 h71 os72 q73 K74 ho75 => ?_)
    obtain ⟨rfl, rfl, F76⟩ := q73
    replace F10 := F10.keep K74 (ninS n_r8_b65 nin0) (ninS n_t9_b65 nin0)
    replace F64 := F64.keep K74 (ninS n_r62_b65 nin0) (ninS n_t63_b65 nin0)
    show Go k h71 _ _ _ 197 #[.val (.int kk), .val (.int tt), .val (.int ww), .val (.int mm), .val (.int ki), .val (.ref kd), .val (.int lt), .val (.int lw), .val (.int tc0), .val (.int tc1), .val (.int wc0), .val (.int wc1), .val (.int (0 : Int32)), .val (.ref r8), .val (.ref r62), .unset, .unset, .unset] [(.ref b65)]
    refine Go.astore C d0_197 rfl (Ls' := #[.val (.int kk), .val (.int tt), .val (.int ww), .val (.int mm), .val (.int ki), .val (.ref kd), .val (.int lt), .val (.int lw), .val (.int tc0), .val (.int tc1), .val (.int wc0), .val (.int wc1), .val (.int (0 : Int32)), .val (.ref r8), .val (.ref r62), .val (.ref b65), .unset, .unset]) rfl ?_
    refine Go.aload C d0_199 rfl rfl ?_
    refine Go.aload C d0_201 rfl rfl ?_
    refine Go.callV C (z := y_10) (zr := y_10) (a := b65) (argsL := [(.ref r62)]) (rm_isS hW h71 (b65) (kd) (fE) (r8) (t9) ((List.map own_b (own_mk lt tc0 tc1))) (r62) (t63) ((List.map own_b (own_mk lw wc0 wc1))) F76 F10 F64 TE hke) F76.1 (w_54 hW) (w_55 hW) (fun hz => notFace_of_selects (args := #[]) (mvT hz (w_57 hW))) (w_57 hW) (w_56 hW) (w_40 hW) (w_58 hW) d0_203 pd_10 rfl (by decide) rfl (st := []) rfl (by decide) (Nat.le_of_ble_eq_true rfl) (by decide) (by decide) ((fun _ hx => nomatch hx)) (fun v77 h78 os79 q80 K81 ho82 => ?_)
    obtain ⟨rfl, rfl, rfl⟩ := q80
    clear K81 ho82
    show Go k h71 _ _ _ 206 #[.val (.int kk), .val (.int tt), .val (.int ww), .val (.int mm), .val (.int ki), .val (.ref kd), .val (.int lt), .val (.int lw), .val (.int tc0), .val (.int tc1), .val (.int wc0), .val (.int wc1), .val (.int (0 : Int32)), .val (.ref r8), .val (.ref r62), .val (.ref b65), .unset, .unset] [(.int (if (List.map own_b (own_mk lt tc0 tc1)) = (List.map own_b (own_mk lw wc0 wc1)) then (1 : Int32) else 0))]
    refine Go.istore C d0_206 (Ls' := #[.val (.int kk), .val (.int tt), .val (.int ww), .val (.int mm), .val (.int ki), .val (.ref kd), .val (.int lt), .val (.int lw), .val (.int tc0), .val (.int tc1), .val (.int wc0), .val (.int wc1), .val (.int (0 : Int32)), .val (.ref r8), .val (.ref r62), .val (.ref b65), .val (.int (if (List.map own_b (own_mk lt tc0 tc1)) = (List.map own_b (own_mk lw wc0 wc1)) then (1 : Int32) else 0)), .unset]) rfl ?_
    refine Go.iload C d0_208 rfl ?_
    refine Go.iconst C (3 : Int32) d0_210 (by decide) ?_
    refine Go.icmpeq C d0_211 (fun hc211 => absurd hc211 hk3) (fun hc211 => ?_)
    refine Go.iload C d0_214 rfl ?_
    refine Go.ifne C d0_216 (fun hc => absurd hc (by decide)) (fun _ => ?_)
    refine Go.iload C d0_219 rfl ?_
    refine Go.iload C d0_221 rfl ?_
    have key := own_key (own_lat2 h_tc0 h_tc1) (own_lat2 h_wc0 h_wc1) h_lt h_lw
    by_cases P : own_same lt tc0 tc1 lw wc0 wc1
    · rw [show (if (List.map own_b (own_mk lt tc0 tc1)) = (List.map own_b (own_mk lw wc0 wc1)) then (1 : Int32) else 0) = 1 from if_pos (key.mpr P)]
      refine Go.icmpne C d0_223 (fun hc223 => ?_) (fun hc223 => ?_)
      · exact absurd P.1 hc223
      · refine Go.iload C d0_226 rfl ?_
        refine Go.iconst C (1 : Int32) d0_228 (by decide) ?_
        refine Go.icmplt C d0_229 (fun hc229 => ?_) (fun hc229 => ?_)
        · refine Go.iload C d0_239 rfl ?_
          refine Go.iconst C (2 : Int32) d0_241 (by decide) ?_
          refine Go.icmplt C d0_242 (fun hc242 => ?_) (fun hc242 => ?_)
          · refine Go.iconst C (1 : Int32) d0_252 (by decide) ?_
            refine Go.goto C d0_253 ?_
            refine Go.istore C d0_257 (Ls' := #[.val (.int kk), .val (.int tt), .val (.int ww), .val (.int mm), .val (.int ki), .val (.ref kd), .val (.int lt), .val (.int lw), .val (.int tc0), .val (.int tc1), .val (.int wc0), .val (.int wc1), .val (.int (0 : Int32)), .val (.ref r8), .val (.ref r62), .val (.ref b65), .val (.int (1 : Int32)), .val (.int (1 : Int32))]) rfl ?_
            refine Go.iload C d0_259 rfl ?_
            refine Go.iload C d0_261 rfl ?_
            refine Go.icmpne C d0_263 (fun hc => absurd hc (by decide)) (fun _ => ?_)
            refine Go.iconst C (1 : Int32) d0_266 (by decide) ?_
            refine Go.goto C d0_267 ?_
            refine Go.ireturn C d0_271 (Nat.le_of_ble_eq_true rfl) (Nat.le_of_ble_eq_true rfl) (by simp) rfl [] (fun _ hx => nomatch hx) ?_
            exact ⟨rfl, rfl⟩
          · refine Go.iload C d0_245 rfl ?_
            refine Go.iload C d0_247 rfl ?_
            refine Go.icmpne C d0_249 (fun hc249 => ?_) (fun hc249 => ?_)
            · exact absurd (P.2.2.resolve_left hc242) hc249
            · refine Go.iconst C (1 : Int32) d0_252 (by decide) ?_
              refine Go.goto C d0_253 ?_
              refine Go.istore C d0_257 (Ls' := #[.val (.int kk), .val (.int tt), .val (.int ww), .val (.int mm), .val (.int ki), .val (.ref kd), .val (.int lt), .val (.int lw), .val (.int tc0), .val (.int tc1), .val (.int wc0), .val (.int wc1), .val (.int (0 : Int32)), .val (.ref r8), .val (.ref r62), .val (.ref b65), .val (.int (1 : Int32)), .val (.int (1 : Int32))]) rfl ?_
              refine Go.iload C d0_259 rfl ?_
              refine Go.iload C d0_261 rfl ?_
              refine Go.icmpne C d0_263 (fun hc => absurd hc (by decide)) (fun _ => ?_)
              refine Go.iconst C (1 : Int32) d0_266 (by decide) ?_
              refine Go.goto C d0_267 ?_
              refine Go.ireturn C d0_271 (Nat.le_of_ble_eq_true rfl) (Nat.le_of_ble_eq_true rfl) (by simp) rfl [] (fun _ hx => nomatch hx) ?_
              exact ⟨rfl, rfl⟩
        · refine Go.iload C d0_232 rfl ?_
          refine Go.iload C d0_234 rfl ?_
          refine Go.icmpne C d0_236 (fun hc236 => ?_) (fun hc236 => ?_)
          · exact absurd (P.2.1.resolve_left hc229) hc236
          · refine Go.iload C d0_239 rfl ?_
            refine Go.iconst C (2 : Int32) d0_241 (by decide) ?_
            refine Go.icmplt C d0_242 (fun hc242 => ?_) (fun hc242 => ?_)
            · refine Go.iconst C (1 : Int32) d0_252 (by decide) ?_
              refine Go.goto C d0_253 ?_
              refine Go.istore C d0_257 (Ls' := #[.val (.int kk), .val (.int tt), .val (.int ww), .val (.int mm), .val (.int ki), .val (.ref kd), .val (.int lt), .val (.int lw), .val (.int tc0), .val (.int tc1), .val (.int wc0), .val (.int wc1), .val (.int (0 : Int32)), .val (.ref r8), .val (.ref r62), .val (.ref b65), .val (.int (1 : Int32)), .val (.int (1 : Int32))]) rfl ?_
              refine Go.iload C d0_259 rfl ?_
              refine Go.iload C d0_261 rfl ?_
              refine Go.icmpne C d0_263 (fun hc => absurd hc (by decide)) (fun _ => ?_)
              refine Go.iconst C (1 : Int32) d0_266 (by decide) ?_
              refine Go.goto C d0_267 ?_
              refine Go.ireturn C d0_271 (Nat.le_of_ble_eq_true rfl) (Nat.le_of_ble_eq_true rfl) (by simp) rfl [] (fun _ hx => nomatch hx) ?_
              exact ⟨rfl, rfl⟩
            · refine Go.iload C d0_245 rfl ?_
              refine Go.iload C d0_247 rfl ?_
              refine Go.icmpne C d0_249 (fun hc249 => ?_) (fun hc249 => ?_)
              · exact absurd (P.2.2.resolve_left hc242) hc249
              · refine Go.iconst C (1 : Int32) d0_252 (by decide) ?_
                refine Go.goto C d0_253 ?_
                refine Go.istore C d0_257 (Ls' := #[.val (.int kk), .val (.int tt), .val (.int ww), .val (.int mm), .val (.int ki), .val (.ref kd), .val (.int lt), .val (.int lw), .val (.int tc0), .val (.int tc1), .val (.int wc0), .val (.int wc1), .val (.int (0 : Int32)), .val (.ref r8), .val (.ref r62), .val (.ref b65), .val (.int (1 : Int32)), .val (.int (1 : Int32))]) rfl ?_
                refine Go.iload C d0_259 rfl ?_
                refine Go.iload C d0_261 rfl ?_
                refine Go.icmpne C d0_263 (fun hc => absurd hc (by decide)) (fun _ => ?_)
                refine Go.iconst C (1 : Int32) d0_266 (by decide) ?_
                refine Go.goto C d0_267 ?_
                refine Go.ireturn C d0_271 (Nat.le_of_ble_eq_true rfl) (Nat.le_of_ble_eq_true rfl) (by simp) rfl [] (fun _ hx => nomatch hx) ?_
                exact ⟨rfl, rfl⟩
    · rw [show (if (List.map own_b (own_mk lt tc0 tc1)) = (List.map own_b (own_mk lw wc0 wc1)) then (1 : Int32) else 0) = 0 from if_neg (fun q => P (key.mp q))]
      refine Go.icmpne C d0_223 (fun hc223 => ?_) (fun hc223 => ?_)
      · refine Go.iconst C (0 : Int32) d0_256 (by decide) ?_
        refine Go.istore C d0_257 (Ls' := #[.val (.int kk), .val (.int tt), .val (.int ww), .val (.int mm), .val (.int ki), .val (.ref kd), .val (.int lt), .val (.int lw), .val (.int tc0), .val (.int tc1), .val (.int wc0), .val (.int wc1), .val (.int (0 : Int32)), .val (.ref r8), .val (.ref r62), .val (.ref b65), .val (.int (0 : Int32)), .val (.int (0 : Int32))]) rfl ?_
        refine Go.iload C d0_259 rfl ?_
        refine Go.iload C d0_261 rfl ?_
        refine Go.icmpne C d0_263 (fun hc => absurd hc (by decide)) (fun _ => ?_)
        refine Go.iconst C (1 : Int32) d0_266 (by decide) ?_
        refine Go.goto C d0_267 ?_
        refine Go.ireturn C d0_271 (Nat.le_of_ble_eq_true rfl) (Nat.le_of_ble_eq_true rfl) (by simp) rfl [] (fun _ hx => nomatch hx) ?_
        exact ⟨rfl, rfl⟩
      · refine Go.iload C d0_226 rfl ?_
        refine Go.iconst C (1 : Int32) d0_228 (by decide) ?_
        refine Go.icmplt C d0_229 (fun hc229 => ?_) (fun hc229 => ?_)
        · refine Go.iload C d0_239 rfl ?_
          refine Go.iconst C (2 : Int32) d0_241 (by decide) ?_
          refine Go.icmplt C d0_242 (fun hc242 => ?_) (fun hc242 => ?_)
          · exact absurd ⟨hc223, Or.inl hc229, Or.inl hc242⟩ P
          · refine Go.iload C d0_245 rfl ?_
            refine Go.iload C d0_247 rfl ?_
            refine Go.icmpne C d0_249 (fun hc249 => ?_) (fun hc249 => ?_)
            · refine Go.iconst C (0 : Int32) d0_256 (by decide) ?_
              refine Go.istore C d0_257 (Ls' := #[.val (.int kk), .val (.int tt), .val (.int ww), .val (.int mm), .val (.int ki), .val (.ref kd), .val (.int lt), .val (.int lw), .val (.int tc0), .val (.int tc1), .val (.int wc0), .val (.int wc1), .val (.int (0 : Int32)), .val (.ref r8), .val (.ref r62), .val (.ref b65), .val (.int (0 : Int32)), .val (.int (0 : Int32))]) rfl ?_
              refine Go.iload C d0_259 rfl ?_
              refine Go.iload C d0_261 rfl ?_
              refine Go.icmpne C d0_263 (fun hc => absurd hc (by decide)) (fun _ => ?_)
              refine Go.iconst C (1 : Int32) d0_266 (by decide) ?_
              refine Go.goto C d0_267 ?_
              refine Go.ireturn C d0_271 (Nat.le_of_ble_eq_true rfl) (Nat.le_of_ble_eq_true rfl) (by simp) rfl [] (fun _ hx => nomatch hx) ?_
              exact ⟨rfl, rfl⟩
            · exact absurd ⟨hc223, Or.inl hc229, Or.inr hc249⟩ P
        · refine Go.iload C d0_232 rfl ?_
          refine Go.iload C d0_234 rfl ?_
          refine Go.icmpne C d0_236 (fun hc236 => ?_) (fun hc236 => ?_)
          · refine Go.iconst C (0 : Int32) d0_256 (by decide) ?_
            refine Go.istore C d0_257 (Ls' := #[.val (.int kk), .val (.int tt), .val (.int ww), .val (.int mm), .val (.int ki), .val (.ref kd), .val (.int lt), .val (.int lw), .val (.int tc0), .val (.int tc1), .val (.int wc0), .val (.int wc1), .val (.int (0 : Int32)), .val (.ref r8), .val (.ref r62), .val (.ref b65), .val (.int (0 : Int32)), .val (.int (0 : Int32))]) rfl ?_
            refine Go.iload C d0_259 rfl ?_
            refine Go.iload C d0_261 rfl ?_
            refine Go.icmpne C d0_263 (fun hc => absurd hc (by decide)) (fun _ => ?_)
            refine Go.iconst C (1 : Int32) d0_266 (by decide) ?_
            refine Go.goto C d0_267 ?_
            refine Go.ireturn C d0_271 (Nat.le_of_ble_eq_true rfl) (Nat.le_of_ble_eq_true rfl) (by simp) rfl [] (fun _ hx => nomatch hx) ?_
            exact ⟨rfl, rfl⟩
          · refine Go.iload C d0_239 rfl ?_
            refine Go.iconst C (2 : Int32) d0_241 (by decide) ?_
            refine Go.icmplt C d0_242 (fun hc242 => ?_) (fun hc242 => ?_)
            · exact absurd ⟨hc223, Or.inr hc236, Or.inl hc242⟩ P
            · refine Go.iload C d0_245 rfl ?_
              refine Go.iload C d0_247 rfl ?_
              refine Go.icmpne C d0_249 (fun hc249 => ?_) (fun hc249 => ?_)
              · refine Go.iconst C (0 : Int32) d0_256 (by decide) ?_
                refine Go.istore C d0_257 (Ls' := #[.val (.int kk), .val (.int tt), .val (.int ww), .val (.int mm), .val (.int ki), .val (.ref kd), .val (.int lt), .val (.int lw), .val (.int tc0), .val (.int tc1), .val (.int wc0), .val (.int wc1), .val (.int (0 : Int32)), .val (.ref r8), .val (.ref r62), .val (.ref b65), .val (.int (0 : Int32)), .val (.int (0 : Int32))]) rfl ?_
                refine Go.iload C d0_259 rfl ?_
                refine Go.iload C d0_261 rfl ?_
                refine Go.icmpne C d0_263 (fun hc => absurd hc (by decide)) (fun _ => ?_)
                refine Go.iconst C (1 : Int32) d0_266 (by decide) ?_
                refine Go.goto C d0_267 ?_
                refine Go.ireturn C d0_271 (Nat.le_of_ble_eq_true rfl) (Nat.le_of_ble_eq_true rfl) (by simp) rfl [] (fun _ hx => nomatch hx) ?_
                exact ⟨rfl, rfl⟩
              · exact absurd ⟨hc223, Or.inr hc236, Or.inr hc249⟩ P
  · refine Go.ifeq C d0_168 (fun hc => absurd hc (by decide)) (fun _ => ?_)
    refine Go.aconstNull C d0_171 ?_
    refine Go.goto C d0_172 ?_
    refine Go.astore C d0_184 rfl (Ls' := #[.val (.int kk), .val (.int tt), .val (.int ww), .val (.int mm), .val (.int ki), .val (.ref kd), .val (.int lt), .val (.int lw), .val (.int tc0), .val (.int tc1), .val (.int wc0), .val (.int wc1), .val (.int (1 : Int32)), .val (.ref r8), .val .null, .unset, .unset, .unset]) rfl ?_
    refine Go.new C (w_38 hW) (w_39 hW) (w_40 hW) (fl_1 hW) dv_1 d0_186 (by decide) (by decide) (fun b83 h84 e85 K86 O87 => ?_)
    have n_r8_b83 : r8 ≠ b83 := ne_lt F10.lt (ge_of e85)
    have n_t9_b83 : t9 ≠ b83 := ne_lt F10.lt1 (ge_of e85)
    replace F10 := F10.k0 K86
    refine Go.dup C d0_189 rfl ?_
    refine Go.aload C d0_190 rfl rfl ?_
    refine Go.aload C d0_192 rfl rfl ?_
    refine Go.callI C (z := y_9) (a := b83) (argsL := [(.ref kd), (.ref r8)]) (rm8 hW h84 (b83) (kd) (r8) O87) rfl (w_41 hW) (w_42 hW) (w_40 hW) (w_43 hW) d0_194 pd_9 rfl (by decide) rfl (st := [(.ref b83)]) rfl (by decide) (Nat.le_of_ble_eq_true rfl) (by decide) (by decide) (List.forall_mem_cons.mpr ⟨(List.mem_of_getElem? (i := 0) rfl), (fun _ hx => nomatch hx)⟩) (fun v88 h89 os90 q91 K92 ho93 => ?_)
    obtain ⟨rfl, rfl, F94⟩ := q91
    replace F10 := F10.keep K92 (ninS n_r8_b83 nin0) (ninS n_t9_b83 nin0)
    show Go k h89 _ _ _ 197 #[.val (.int kk), .val (.int tt), .val (.int ww), .val (.int mm), .val (.int ki), .val (.ref kd), .val (.int lt), .val (.int lw), .val (.int tc0), .val (.int tc1), .val (.int wc0), .val (.int wc1), .val (.int (1 : Int32)), .val (.ref r8), .val .null, .unset, .unset, .unset] [(.ref b83)]
    refine Go.astore C d0_197 rfl (Ls' := #[.val (.int kk), .val (.int tt), .val (.int ww), .val (.int mm), .val (.int ki), .val (.ref kd), .val (.int lt), .val (.int lw), .val (.int tc0), .val (.int tc1), .val (.int wc0), .val (.int wc1), .val (.int (1 : Int32)), .val (.ref r8), .val .null, .val (.ref b83), .unset, .unset]) rfl ?_
    refine Go.aload C d0_199 rfl rfl ?_
    refine Go.aload C d0_201 rfl rfl ?_
    refine Go.callV C (z := y_10) (zr := y_10) (a := b83) (argsL := [.null]) (rm_isN hW h89 (b83) (kd) (fE) (r8) (t9) ((List.map own_b (own_mk lt tc0 tc1))) F94 F10 TE hke) F94.1 (w_54 hW) (w_55 hW) (fun hz => notFace_of_selects (args := #[]) (mvT hz (w_57 hW))) (w_57 hW) (w_56 hW) (w_40 hW) (w_58 hW) d0_203 pd_10 rfl (by decide) rfl (st := []) rfl (by decide) (Nat.le_of_ble_eq_true rfl) (by decide) (by decide) ((fun _ hx => nomatch hx)) (fun v95 h96 os97 q98 K99 ho100 => ?_)
    obtain ⟨rfl, rfl, rfl⟩ := q98
    clear K99 ho100
    show Go k h89 _ _ _ 206 #[.val (.int kk), .val (.int tt), .val (.int ww), .val (.int mm), .val (.int ki), .val (.ref kd), .val (.int lt), .val (.int lw), .val (.int tc0), .val (.int tc1), .val (.int wc0), .val (.int wc1), .val (.int (1 : Int32)), .val (.ref r8), .val .null, .val (.ref b83), .unset, .unset] [(.int (0 : Int32))]
    refine Go.istore C d0_206 (Ls' := #[.val (.int kk), .val (.int tt), .val (.int ww), .val (.int mm), .val (.int ki), .val (.ref kd), .val (.int lt), .val (.int lw), .val (.int tc0), .val (.int tc1), .val (.int wc0), .val (.int wc1), .val (.int (1 : Int32)), .val (.ref r8), .val .null, .val (.ref b83), .val (.int (0 : Int32)), .unset]) rfl ?_
    refine Go.iload C d0_208 rfl ?_
    refine Go.iconst C (3 : Int32) d0_210 (by decide) ?_
    refine Go.icmpeq C d0_211 (fun hc211 => absurd hc211 hk3) (fun hc211 => ?_)
    refine Go.iload C d0_214 rfl ?_
    refine Go.ifne C d0_216 (fun _ => ?_) (fun hc => absurd hc (by decide)) 
    refine Go.iconst C (0 : Int32) d0_256 (by decide) ?_
    refine Go.istore C d0_257 (Ls' := #[.val (.int kk), .val (.int tt), .val (.int ww), .val (.int mm), .val (.int ki), .val (.ref kd), .val (.int lt), .val (.int lw), .val (.int tc0), .val (.int tc1), .val (.int wc0), .val (.int wc1), .val (.int (1 : Int32)), .val (.ref r8), .val .null, .val (.ref b83), .val (.int (0 : Int32)), .val (.int (0 : Int32))]) rfl ?_
    refine Go.iload C d0_259 rfl ?_
    refine Go.iload C d0_261 rfl ?_
    refine Go.icmpne C d0_263 (fun hc => absurd hc (by decide)) (fun _ => ?_)
    refine Go.iconst C (1 : Int32) d0_266 (by decide) ?_
    refine Go.goto C d0_267 ?_
    refine Go.ireturn C d0_271 (Nat.le_of_ble_eq_true rfl) (Nat.le_of_ble_eq_true rfl) (by simp) rfl [] (fun _ hx => nomatch hx) ?_
    exact ⟨rfl, rfl⟩
set_option maxRecDepth 65536 in
set_option maxHeartbeats 40000000 in
theorem comes_1 {Post : Tables → Env → Array Value → State → Outcome → State → Prop} (hpost : ∀ tb e args s v u, (limb_1_1.after args s (.returned v) u = true ∧ limb_1_2.after args s (.returned v) u = true ∧ True) → ReturnedEndW s (.returned v) u (Jvm.fieldLocs frame_1_writes args s ++ Jvm.arrayLocs frame_1_arrays args s ++ Jvm.staticLocs frame_1_statics s) 24 1152 → Post tb e args s (.returned v) u) :
    ArmFor flags0 classFile x code maxLocals ret World_1 tables_1 room_1 Calls_1 rest_1 Pre_1 Post := by
  intro l hfl _ _ p e ha hc hk s m args below hf hA hF happ hP
  obtain ⟨hcalls, hrest, hpre⟩ := hP
  obtain ⟨-, -, -, hnamed, -, -, -, hat⟩ := (Spec.applies_iff hf).mp happ
  obtain ⟨hg, hn⟩ := and_e (Cond.before_iff.mp (show (Jvm.Cond.and given_1 narrow_1).before args s = true from hpre))
  obtain ⟨g1, g2⟩ := and_e hg
  obtain ⟨g3, g4⟩ := and_e g2
  obtain ⟨g5, g6⟩ := and_e g4
  obtain ⟨g7, g8⟩ := and_e g6
  obtain ⟨w0, w1, w2, w3, rfl⟩ : ∃ w0 w1 w2 w3 : Value, args = #[w0, w1, w2, w3] := by
    have hs : args.size = 4 := by simpa [Cond.value, given_1] using g1
    obtain ⟨L⟩ := args
    match L, hs with
    | [w0, w1, w2, w3], _ => exact ⟨w0, w1, w2, w3, rfl⟩
  have hw := fun d (hd : d ∈ tables_1) => atoms_spec (ws := Jvm.Cond.code x code maxLocals ret :: tables_1) hat d (List.mem_cons_of_mem _ hd)
  have hfit : Fit s := fun {y c} hc i hi => by
    obtain ⟨ha, rfl⟩ := Array.getElem?_eq_some_iff.mp hc
    have q := List.all_eq_true.mp ((Array.all_eq_true_iff_forall_mem.mp hF) _ (Array.getElem_mem ha)) i (List.mem_range.mpr hi)
    simpa [Array.getElem?_eq_getElem hi] using q
  obtain ⟨hsets, hown0⟩ := atoms_of _ (rest_1_c_eq ▸ (show rest_1_c.before _ s = true from hrest))
  have hW : W0 s _ := ⟨hw, hsets⟩
  obtain ⟨i0, ei0⟩ := is_v g3
  obtain rfl : w0 = (.int i0) := Option.some.inj ei0
  obtain ⟨i1, ei1⟩ := is_v g5
  obtain rfl : w1 = (.int i1) := Option.some.inj ei1
  obtain ⟨i2, ei2⟩ := is_v g7
  obtain rfl : w2 = (.int i2) := Option.some.inj ei2
  obtain ⟨i3, ei3⟩ := is_v g8
  obtain rfl : w3 = (.int i3) := Option.some.inj ei3
  obtain ⟨xW, m0⟩ := and_e hn
  obtain ⟨xE, m1⟩ := and_e m0
  obtain ⟨oW, m2⟩ := and_e m1
  obtain ⟨oE, m3⟩ := and_e m2
  obtain ⟨xS, m4⟩ := and_e m3
  obtain ⟨oS, m5⟩ := and_e m4
  obtain ⟨xD, m6⟩ := and_e m5
  have oD := m6
  obtain ⟨fW, vW⟩ := exa_v xW
  have TW := Sta.start vW (Or.inr ⟨(w_1 hW), (w_2 hW)⟩)
  have dW := own_ord vW oW
  obtain ⟨fD, vD⟩ := exa_v xD
  have TD := Sta.start vD (Or.inr ⟨(w_1 hW), (w_75 hW)⟩)
  have dD := own_ord vD oD
  obtain ⟨fS, vS⟩ := exa_v xS
  have TS := Sta.start vS (Or.inr ⟨(w_1 hW), (w_73 hW)⟩)
  have dS := own_ord vS oS
  obtain ⟨fE, vE⟩ := exa_v xE
  have TE := Sta.start vE (Or.inr ⟨(w_1 hW), (w_60 hW)⟩)
  have dE := own_ord vE oE
  have nW : fW ≠ fE := Fld.ne dW dE (by decide)
  have nD : fD ≠ fE := Fld.ne dD dE (by decide)
  have nS : fS ≠ fE := Fld.ne dS dE (by decide)
  obtain ⟨n, o, h1, h2, h3, v, L, os, rfl, hQ, -, -, N, -, hq, hq2⟩ := (rm0 (l := l) hW s.heap i0 i1 i2 i3 fW fD fS fE TW TD TS TE nW nD nS : Con l s own_EL true x code maxLocals ret room_1 tables_1 _ _ _ _) p e ha hc hk s m _ below hf ((Spec.applies_iff_loose hf).mp happ).1 ⟨rfl, State.Warmed39.refl s, rfl, CHv.start (own_ew hW) (fun p hp => hcalls.1 p hp) (s_2 hW) (w_27 hW) (w_9 hW), ⟨Nat.le_refl _, fun _ _ q => q⟩, (fun _ q => nomatch q)⟩ trivial
  obtain ⟨rfl, -⟩ := hQ
  refine ⟨n, _, h1, h2, h3, hpost _ _ _ _ _ _ ⟨Cond.after_iff.mpr rfl, Cond.after_iff.mpr (eq_i res_at (Term.int_eval (1)) rfl), trivial⟩ ⟨hq.1, hq.2.1, hq.2.2.1, (hq.2.2.2.sift fun y hy => Or.inr (N y hy)).mono (by decide) (by decide)⟩⟩
theorem main_1_1 : Claimed_1_1 := comes_1 fun _ _ _ _ _ _ h hF => ⟨h.1, hF⟩
theorem main_1_2 : Claimed_1_2 := comes_1 fun _ _ _ _ _ _ h hF => ⟨h.2.1, hF⟩
end Jvm.Pilot.@@N@@
namespace Jvm.Pilot.@@N@@
open Jvm Jvm.ClassFile Sem Op Lib Jvm.Free Jvm.Stand Jvm.Pilot.@@N@@.Jvm.D
/-! MADE BY PROGRAM (witnessworld.py) out of the Statement's table words and the real class files: 23 classes; the members and pool entries that the words name. The judged class is class 1, her method 2. -/
namespace start1
open Jvm.ClassFile
def u (s : String) : CpInfo := .utf8 (stringToUtf16 s)
/-- a pool by its gaps: so many unusable entries, then the entry; so many at the end -/
def gap : Nat → List CpInfo → List CpInfo
  | 0, r => r
  | n + 1, r => .unusable :: gap n r
def poolList (es : List (Nat × CpInfo)) (last : Nat) : List CpInfo := es.foldr (fun e r => gap e.1 (e.2 :: r)) (gap last [])
def pool (es : List (Nat × CpInfo)) (last : Nat) : Array CpInfo := ⟨poolList es last⟩
def fileOf (pool : Array CpInfo) (this : Nat) (attrs : Array Attribute := #[]) (ms : Array MethodInfo := #[]) (fl : Nat := 33) (sup : Nat := 0) (ifs : Array Nat := #[]) (fds : Array FieldInfo := #[]) : ClassFile where
  minorVersion := 0
  majorVersion := 65
  constantPool := pool
  accessFlags := fl
  thisClass := this
  superClass := sup
  interfaces := ifs
  fields := fds
  methods := ms
  attributes := attrs
def plain (name : String) (sup : Option ClassId) : Class where
  name := name
  kind := .ordinary
  loader := none
  accessFlags := 33
  super := sup
  interfaces := #[]
  cf := none
  fields := #[]
  methods := #[]
  instanceTypes := #[]
  staticTypes := #[]
  resolved := #[]
  callSites := []
  init := .initialized
  statics := none
  mirror := none

def pool0 : Array CpInfo := pool [(5, u "<init>"), (0, u "()V"), (1, .class_ 10), (1, u "java/lang/Object")] 113

def k0c0 : Code := { maxStack := 0, maxLocals := 1, code := object_method_1_code, exceptionTable := #[], attributes := #[] }
def k0m0 : Method := { name := "<init>", desc := "()V", sig := { parameters := [], returnType := none }, accessFlags := 1, code := some k0c0 }
/-- java/lang/Object -/
def k0 : Class := { plain "java/lang/Object" none with
  accessFlags := 33
  interfaces := #[]
  cf := some (fileOf pool0 8 #[] #[{ accessFlags := 1, nameIndex := 5, descriptorIndex := 6, attributes := #[] }] 33 0 #[] #[])
  fields := #[]
  methods := #[k0m0]
  instanceTypes := #[]
  staticTypes := #[]
  resolved := Array.replicate 124 none
  statics := none }

def pool1 : Array CpInfo := pool [(2, .class_ 4), (1, u "java/lang/Object"), (0, u "<init>"), (0, u "()V"), (0, .class_ 8), (0, u "java/lang/String"), (0, .methodref 7 10), (0, .nameAndType 5 11), (0, u "([C)V"), (0, .fieldref 13 14), (0, .class_ 15), (0, .nameAndType 16 17), (0, u "com/example/kapok/kapok/model/Token$Kind"), (0, u "WORD"), (0, u "Lcom/example/kapok/kapok/model/Token$Kind;"), (0, .fieldref 13 19), (0, .nameAndType 20 17), (0, u "DEGREE"), (0, .fieldref 13 22), (0, .nameAndType 23 17), (0, u "SYMBOL"), (0, .fieldref 13 25), (0, .nameAndType 26 17), (0, u "END"), (0, .integer 2147483647), (0, .methodref 29 30), (0, .class_ 31), (0, .nameAndType 32 33), (0, u "com/example/kapok/kapok/model/TokenIsPinLaw"), (0, u "mk"), (0, u "(ICC)Ljava/lang/String;"), (0, .class_ 35), (0, u "com/example/kapok/kapok/model/Token"), (0, .methodref 34 37), (0, .nameAndType 5 38), (0, u "(Lcom/example/kapok/kapok/model/Token$Kind;Ljava/lang/String;)V"), (0, .methodref 34 40), (0, .nameAndType 41 42), (0, u "is"), (0, u "(Ljava/lang/String;)Z"), (3, u "law"), (0, u "(IIII)Z")] 4

def k1m0 : Method := { name := "<init>", desc := "()V", sig := { parameters := [], returnType := none }, accessFlags := 1, code := none }
def k1c1 : Code := { maxStack := 6, maxLocals := 3, code := method_2_code, exceptionTable := #[], attributes := #[] }
def k1m1 : Method := { name := "mk", desc := "(ICC)Ljava/lang/String;", sig := { parameters := [.int, .char, .char], returnType := some (.object "java/lang/String") }, accessFlags := 10, code := some k1c1 }
def k1c2 : Code := { maxStack := 4, maxLocals := 18, code := code, exceptionTable := #[], attributes := #[] }
def k1m2 : Method := { name := "law", desc := "(IIII)Z", sig := { parameters := [.int, .int, .int, .int], returnType := some .boolean }, accessFlags := 9, code := some k1c2 }
/-- com/example/kapok/kapok/model/TokenIsPinLaw -/
def k1 : Class := { plain "com/example/kapok/kapok/model/TokenIsPinLaw" (some 0) with
  accessFlags := 49
  interfaces := #[]
  cf := some (fileOf pool1 29 #[] #[{ accessFlags := 1, nameIndex := 5, descriptorIndex := 6, attributes := #[] }, { accessFlags := 10, nameIndex := 32, descriptorIndex := 33, attributes := #[] }, { accessFlags := 9, nameIndex := 46, descriptorIndex := 47, attributes := #[] }] 49 2 #[] #[])
  fields := #[]
  methods := #[k1m0, k1m1, k1m2]
  instanceTypes := #[]
  staticTypes := #[]
  resolved := Array.replicate 52 none
  statics := none }

def pool2 : Array CpInfo := pool [(1, .class_ 2), (0, u "java/lang/constant/Constable"), (0, .class_ 4), (0, u "java/lang/Object")] 6

/-- java/lang/constant/Constable -/
def k2 : Class := { plain "java/lang/constant/Constable" (some 0) with
  accessFlags := 1537
  interfaces := #[]
  cf := some (fileOf pool2 1 #[] #[] 1537 3 #[] #[])
  fields := #[]
  methods := #[]
  instanceTypes := #[]
  staticTypes := #[]
  resolved := Array.replicate 11 none
  statics := none }

def pool3 : Array CpInfo := pool [(1, .class_ 2), (0, u "java/lang/Comparable"), (0, .class_ 4), (0, u "java/lang/Object")] 7

/-- java/lang/Comparable -/
def k3 : Class := { plain "java/lang/Comparable" (some 0) with
  accessFlags := 1537
  interfaces := #[]
  cf := some (fileOf pool3 1 #[] #[] 1537 3 #[] #[])
  fields := #[]
  methods := #[]
  instanceTypes := #[]
  staticTypes := #[]
  resolved := Array.replicate 12 none
  statics := none }

def pool4 : Array CpInfo := pool [(1, .class_ 2), (0, u "java/io/Serializable"), (0, .class_ 4), (0, u "java/lang/Object")] 2

/-- java/io/Serializable -/
def k4 : Class := { plain "java/io/Serializable" (some 0) with
  accessFlags := 1537
  interfaces := #[]
  cf := some (fileOf pool4 1 #[] #[] 1537 3 #[] #[])
  fields := #[]
  methods := #[]
  instanceTypes := #[]
  staticTypes := #[]
  resolved := Array.replicate 7 none
  statics := none }

def pool5 : Array CpInfo := pool [(2, .class_ 4), (1, u "java/lang/Enum"), (0, u "name"), (0, u "Ljava/lang/String;"), (2, u "ordinal"), (0, u "I"), (1, .class_ 14), (1, u "java/lang/Object"), (4, u "hash"), (86, .class_ 108), (1, u "java/lang/Enum$EnumDesc"), (2, .class_ 112), (0, u "java/lang/constant/Constable"), (0, .class_ 114), (0, u "java/lang/Comparable"), (0, .class_ 116), (0, u "java/io/Serializable")] 87

/-- java/lang/Enum -/
def k5 : Class := { plain "java/lang/Enum" (some 0) with
  accessFlags := 1057
  interfaces := #[2, 3, 4]
  cf := some (fileOf pool5 2 #[.nestMembers #[106]] #[] 1057 12 #[111, 113, 115] #[{ accessFlags := 18, nameIndex := 5, descriptorIndex := 6, attributes := #[] }, { accessFlags := 18, nameIndex := 9, descriptorIndex := 10, attributes := #[] }, { accessFlags := 2, nameIndex := 19, descriptorIndex := 10, attributes := #[] }])
  fields := #[{ name := "name", type := (.object "java/lang/String"), accessFlags := 18, slot := 0, constantValue := 0 }, { name := "ordinal", type := .int, accessFlags := 18, slot := 1, constantValue := 0 }, { name := "hash", type := .int, accessFlags := 2, slot := 2, constantValue := 0 }]
  methods := #[]
  instanceTypes := #[(.object "java/lang/String"), .int, .int]
  staticTypes := #[]
  resolved := Array.replicate 204 none
  statics := none }

def pool6 : Array CpInfo := pool [(1, .class_ 2), (0, u "com/example/kapok/kapok/model/Token$Kind"), (2, u "WORD"), (0, u "Lcom/example/kapok/kapok/model/Token$Kind;"), (2, u "DEGREE"), (2, u "SYMBOL"), (2, u "END"), (2, u "$VALUES"), (0, u "[Lcom/example/kapok/kapok/model/Token$Kind;"), (6, .class_ 28), (1, u "java/lang/Enum"), (27, .class_ 57), (0, u "com/example/kapok/kapok/model/Token")] 2

/-- com/example/kapok/kapok/model/Token$Kind -/
def k6 : Class := { plain "com/example/kapok/kapok/model/Token$Kind" (some 5) with
  accessFlags := 16432
  interfaces := #[]
  cf := some (fileOf pool6 1 #[.nestHost 56] #[] 16432 26 #[] #[{ accessFlags := 16409, nameIndex := 5, descriptorIndex := 6, attributes := #[] }, { accessFlags := 16409, nameIndex := 9, descriptorIndex := 6, attributes := #[] }, { accessFlags := 16409, nameIndex := 12, descriptorIndex := 6, attributes := #[] }, { accessFlags := 16409, nameIndex := 15, descriptorIndex := 6, attributes := #[] }, { accessFlags := 4122, nameIndex := 18, descriptorIndex := 19, attributes := #[] }])
  fields := #[{ name := "WORD", type := (.object "com/example/kapok/kapok/model/Token$Kind"), accessFlags := 16409, slot := 0, constantValue := 0 }, { name := "DEGREE", type := (.object "com/example/kapok/kapok/model/Token$Kind"), accessFlags := 16409, slot := 1, constantValue := 0 }, { name := "SYMBOL", type := (.object "com/example/kapok/kapok/model/Token$Kind"), accessFlags := 16409, slot := 2, constantValue := 0 }, { name := "END", type := (.object "com/example/kapok/kapok/model/Token$Kind"), accessFlags := 16409, slot := 3, constantValue := 0 }, { name := "$VALUES", type := (.array (.object "com/example/kapok/kapok/model/Token$Kind")), accessFlags := 4122, slot := 4, constantValue := 0 }]
  methods := #[]
  instanceTypes := #[(.object "java/lang/String"), .int, .int]
  staticTypes := #[(.object "com/example/kapok/kapok/model/Token$Kind"), (.object "com/example/kapok/kapok/model/Token$Kind"), (.object "com/example/kapok/kapok/model/Token$Kind"), (.object "com/example/kapok/kapok/model/Token$Kind"), (.array (.object "com/example/kapok/kapok/model/Token$Kind"))]
  resolved := Array.replicate 60 none
  statics := some 0 }

def pool7 : Array CpInfo := pool [(2, .class_ 4), (1, u "java/lang/CharSequence"), (42, .class_ 48), (0, u "java/lang/CharSequence$1CodePointIterator"), (10, .class_ 60), (0, u "java/lang/CharSequence$1CharIterator"), (5, .class_ 67), (0, u "java/lang/Object")] 63

/-- java/lang/CharSequence -/
def k7 : Class := { plain "java/lang/CharSequence" (some 0) with
  accessFlags := 1537
  interfaces := #[]
  cf := some (fileOf pool7 2 #[.nestMembers #[47, 59]] #[] 1537 66 #[] #[])
  fields := #[]
  methods := #[]
  instanceTypes := #[]
  staticTypes := #[]
  resolved := Array.replicate 131 none
  statics := none }

def pool8 : Array CpInfo := pool [(1, .class_ 2), (0, u "java/lang/constant/ConstantDesc"), (0, .class_ 4), (0, u "java/lang/Object")] 32

/-- java/lang/constant/ConstantDesc -/
def k8 : Class := { plain "java/lang/constant/ConstantDesc" (some 0) with
  accessFlags := 1537
  interfaces := #[]
  cf := some (fileOf pool8 1 #[] #[] 1537 3 #[] #[])
  fields := #[]
  methods := #[]
  instanceTypes := #[]
  staticTypes := #[]
  resolved := Array.replicate 37 none
  statics := none }

def pool9 : Array CpInfo := pool [(1, .methodref 2 3), (0, .class_ 4), (0, .nameAndType 5 6), (0, u "java/lang/Object"), (0, u "<init>"), (0, u "()V"), (0, .string 8), (0, u ""), (0, .fieldref 10 11), (0, .class_ 12), (0, .nameAndType 13 14), (0, u "java/lang/String"), (0, u "value"), (0, u "[B"), (0, .fieldref 10 16), (0, .nameAndType 17 18), (0, u "coder"), (0, u "B"), (2, u "hash"), (0, u "I"), (2, u "hashIsZero"), (0, u "Z"), (0, .methodref 10 28), (0, .nameAndType 5 29), (0, u "([CIILjava/lang/Void;)V"), (8, .fieldref 10 39), (0, .nameAndType 40 26), (0, u "COMPACT_STRINGS"), (1, .class_ 44), (1, u "java/lang/StringUTF16"), (0, u "compress"), (1, .methodref 42 48), (0, .nameAndType 49 50), (0, u "coderFromArrayLen"), (0, u "([BI)B"), (56, .class_ 109), (1, u "java/lang/StringLatin1"), (67, .methodref 42 178), (0, .nameAndType 45 179), (0, u "([CII)[B"), (361, .methodref 107 542), (0, .nameAndType 543 544), (0, u "equals"), (0, u "([B[B)Z"), (28, u "(Ljava/lang/Object;)Z"), (1, .class_ 576), (0, u "java/lang/CharSequence"), (22, u "CASE_INSENSITIVE_ORDER"), (0, u "Ljava/util/Comparator;"), (409, u "([C)V"), (90, u "serialPersistentFields"), (0, u "[Ljava/io/ObjectStreamField;"), (0, .class_ 1104), (0, u "java/lang/String$CaseInsensitiveComparator"), (1, .class_ 1107), (0, u "java/io/Serializable"), (0, .class_ 1109), (0, u "java/lang/Comparable"), (0, .class_ 1111), (0, u "java/lang/constant/Constable"), (0, .class_ 1113), (0, u "java/lang/constant/ConstantDesc"), (2, u "serialVersionUID"), (0, u "J"), (3, u "REPL"), (0, u "C"), (2, u "LATIN1"), (1, u "UTF16")] 323

def k9m0 : Method := { name := "<init>", desc := "()V", sig := { parameters := [], returnType := none }, accessFlags := 1, code := none }
def k9c1 : Code := { maxStack := 5, maxLocals := 2, code := jdk_42_method_3_code, exceptionTable := #[], attributes := #[] }
def k9m1 : Method := { name := "<init>", desc := "([C)V", sig := { parameters := [(.array .char)], returnType := none }, accessFlags := 1, code := some k9c1 }
def k9c2 : Code := { maxStack := 2, maxLocals := 3, code := jdk_42_method_66_code, exceptionTable := #[], attributes := #[] }
def k9m2 : Method := { name := "equals", desc := "(Ljava/lang/Object;)Z", sig := { parameters := [(.object "java/lang/Object")], returnType := some .boolean }, accessFlags := 1, code := some k9c2 }
def k9c3 : Code := { maxStack := 4, maxLocals := 6, code := jdk_42_method_149_code, exceptionTable := #[], attributes := #[] }
def k9m3 : Method := { name := "<init>", desc := "([CIILjava/lang/Void;)V", sig := { parameters := [(.array .char), .int, .int, (.object "java/lang/Void")], returnType := none }, accessFlags := 2, code := some k9c3 }
/-- java/lang/String -/
def k9 : Class := { plain "java/lang/String" (some 0) with
  accessFlags := 49
  interfaces := #[4, 3, 7, 2, 8]
  cf := some (fileOf pool9 10 #[.nestMembers #[1103]] #[{ accessFlags := 1, nameIndex := 5, descriptorIndex := 6, attributes := #[] }, { accessFlags := 1, nameIndex := 5, descriptorIndex := 1010, attributes := #[] }, { accessFlags := 1, nameIndex := 543, descriptorIndex := 573, attributes := #[] }, { accessFlags := 2, nameIndex := 5, descriptorIndex := 29, attributes := #[] }] 49 2 #[1106, 1108, 575, 1110, 1112] #[{ accessFlags := 18, nameIndex := 13, descriptorIndex := 14, attributes := #[] }, { accessFlags := 18, nameIndex := 17, descriptorIndex := 18, attributes := #[] }, { accessFlags := 2, nameIndex := 21, descriptorIndex := 22, attributes := #[] }, { accessFlags := 2, nameIndex := 25, descriptorIndex := 26, attributes := #[] }, { accessFlags := 26, nameIndex := 1116, descriptorIndex := 1117, attributes := #[] }, { accessFlags := 24, nameIndex := 40, descriptorIndex := 26, attributes := #[] }, { accessFlags := 26, nameIndex := 1101, descriptorIndex := 1102, attributes := #[] }, { accessFlags := 26, nameIndex := 1121, descriptorIndex := 1122, attributes := #[] }, { accessFlags := 25, nameIndex := 599, descriptorIndex := 600, attributes := #[] }, { accessFlags := 24, nameIndex := 1125, descriptorIndex := 18, attributes := #[] }, { accessFlags := 24, nameIndex := 1127, descriptorIndex := 18, attributes := #[] }])
  fields := #[{ name := "value", type := (.array .byte), accessFlags := 18, slot := 0, constantValue := 0 }, { name := "coder", type := .byte, accessFlags := 18, slot := 1, constantValue := 0 }, { name := "hash", type := .int, accessFlags := 2, slot := 2, constantValue := 0 }, { name := "hashIsZero", type := .boolean, accessFlags := 2, slot := 3, constantValue := 0 }, { name := "serialVersionUID", type := .long, accessFlags := 26, slot := 0, constantValue := 0 }, { name := "COMPACT_STRINGS", type := .boolean, accessFlags := 24, slot := 1, constantValue := 0 }, { name := "serialPersistentFields", type := (.array (.object "java/io/ObjectStreamField")), accessFlags := 26, slot := 2, constantValue := 0 }, { name := "REPL", type := .char, accessFlags := 26, slot := 3, constantValue := 0 }, { name := "CASE_INSENSITIVE_ORDER", type := (.object "java/util/Comparator"), accessFlags := 25, slot := 4, constantValue := 0 }, { name := "LATIN1", type := .byte, accessFlags := 24, slot := 5, constantValue := 0 }, { name := "UTF16", type := .byte, accessFlags := 24, slot := 6, constantValue := 0 }]
  methods := #[k9m0, k9m1, k9m2, k9m3]
  instanceTypes := #[(.array .byte), .byte, .int, .boolean]
  staticTypes := #[.long, .boolean, (.array (.object "java/io/ObjectStreamField")), .char, (.object "java/util/Comparator"), .byte, .byte]
  resolved := Array.replicate 1451 none
  statics := some 1 }

def pool10 : Array CpInfo := pool [(6, .class_ 8), (1, u "java/lang/Object"), (0, u "<init>"), (0, u "()V"), (1, .class_ 14), (1, u "java/lang/StringUTF16"), (31, u "$assertionsDisabled"), (0, u "Z"), (13, u "HI_BYTE_SHIFT"), (0, u "I"), (2, u "LO_BYTE_SHIFT"), (49, .methodref 12 116), (0, .nameAndType 117 118), (0, u "compress"), (0, u "([CI[BII)I"), (3, u "([CII)[B"), (138, u "coderFromArrayLen"), (0, u "([BI)B"), (106, .class_ 371), (1, u "java/lang/StringUTF16$LinesSpliterator"), (58, u "MAX_LENGTH"), (196, .class_ 628), (0, u "java/lang/StringUTF16$CodePointsSpliterator"), (0, .class_ 630), (0, u "java/lang/StringUTF16$CharsSpliterator")] 4

def k10m0 : Method := { name := "<init>", desc := "()V", sig := { parameters := [], returnType := none }, accessFlags := 0, code := none }
def k10c1 : Code := { maxStack := 2, maxLocals := 2, code := jdk_52_method_15_code, exceptionTable := #[], attributes := #[] }
def k10m1 : Method := { name := "coderFromArrayLen", desc := "([BI)B", sig := { parameters := [(.array .byte), .int], returnType := some .byte }, accessFlags := 8, code := some k10c1 }
def k10c2 : Code := { maxStack := 5, maxLocals := 6, code := jdk_52_method_16_code, exceptionTable := #[], attributes := #[] }
def k10m2 : Method := { name := "compress", desc := "([CII)[B", sig := { parameters := [(.array .char), .int, .int], returnType := some (.array .byte) }, accessFlags := 9, code := some k10c2 }
def k10c3 : Code := { maxStack := 3, maxLocals := 7, code := jdk_52_method_21_code, exceptionTable := #[], attributes := #[] }
def k10m3 : Method := { name := "compress", desc := "([CI[BII)I", sig := { parameters := [(.array .char), .int, (.array .byte), .int, .int], returnType := some .int }, accessFlags := 9, code := some k10c3 }
/-- java/lang/StringUTF16 -/
def k10 : Class := { plain "java/lang/StringUTF16" (some 0) with
  accessFlags := 48
  interfaces := #[]
  cf := some (fileOf pool10 12 #[.nestMembers #[627, 629, 369]] #[{ accessFlags := 0, nameIndex := 9, descriptorIndex := 10, attributes := #[] }, { accessFlags := 8, nameIndex := 261, descriptorIndex := 262, attributes := #[] }, { accessFlags := 9, nameIndex := 117, descriptorIndex := 122, attributes := #[] }, { accessFlags := 9, nameIndex := 117, descriptorIndex := 118, attributes := #[] }] 48 6 #[] #[{ accessFlags := 26, nameIndex := 61, descriptorIndex := 62, attributes := #[] }, { accessFlags := 26, nameIndex := 65, descriptorIndex := 62, attributes := #[] }, { accessFlags := 24, nameIndex := 430, descriptorIndex := 62, attributes := #[] }, { accessFlags := 4120, nameIndex := 46, descriptorIndex := 47, attributes := #[] }])
  fields := #[{ name := "HI_BYTE_SHIFT", type := .int, accessFlags := 26, slot := 0, constantValue := 0 }, { name := "LO_BYTE_SHIFT", type := .int, accessFlags := 26, slot := 1, constantValue := 0 }, { name := "MAX_LENGTH", type := .int, accessFlags := 24, slot := 2, constantValue := 0 }, { name := "$assertionsDisabled", type := .boolean, accessFlags := 4120, slot := 3, constantValue := 0 }]
  methods := #[k10m0, k10m1, k10m2, k10m3]
  instanceTypes := #[]
  staticTypes := #[.int, .int, .int, .boolean]
  resolved := Array.replicate 635 none
  statics := none }

def pool11 : Array CpInfo := pool [(1, .methodref 2 3), (0, .class_ 4), (0, .nameAndType 5 6), (0, u "java/lang/Object"), (0, u "<init>"), (0, u "()V"), (0, .class_ 8), (0, u "java/lang/Record")] 13

def k11c0 : Code := { maxStack := 1, maxLocals := 1, code := jdk_30_method_1_code, exceptionTable := #[], attributes := #[] }
def k11m0 : Method := { name := "<init>", desc := "()V", sig := { parameters := [], returnType := none }, accessFlags := 4, code := some k11c0 }
/-- java/lang/Record -/
def k11 : Class := { plain "java/lang/Record" (some 0) with
  accessFlags := 1057
  interfaces := #[]
  cf := some (fileOf pool11 7 #[] #[{ accessFlags := 4, nameIndex := 5, descriptorIndex := 6, attributes := #[] }] 1057 2 #[] #[])
  fields := #[]
  methods := #[k11m0]
  instanceTypes := #[]
  staticTypes := #[]
  resolved := Array.replicate 22 none
  statics := none }

def pool12 : Array CpInfo := pool [(1, .methodref 2 3), (0, .class_ 4), (0, .nameAndType 5 6), (0, u "java/lang/Record"), (0, u "<init>"), (0, u "()V"), (0, .fieldref 8 9), (0, .class_ 10), (0, .nameAndType 11 12), (0, u "com/example/kapok/kapok/model/Token"), (0, u "kind"), (0, u "Lcom/example/kapok/kapok/model/Token$Kind;"), (0, .fieldref 8 14), (0, .nameAndType 15 16), (0, u "text"), (0, u "Ljava/lang/String;"), (0, .fieldref 18 19), (0, .class_ 20), (0, .nameAndType 21 12), (0, u "com/example/kapok/kapok/model/Token$Kind"), (0, u "END"), (0, .methodref 23 24), (0, .class_ 25), (0, .nameAndType 26 27), (0, u "java/lang/String"), (0, u "equals"), (0, u "(Ljava/lang/Object;)Z"), (21, u "(Lcom/example/kapok/kapok/model/Token$Kind;Ljava/lang/String;)V"), (2, u "Lcom/example/kapok/kapok/model/Token;"), (3, u "is"), (0, u "(Ljava/lang/String;)Z")] 37

def k12c0 : Code := { maxStack := 2, maxLocals := 3, code := prog_5_method_1_code, exceptionTable := #[], attributes := #[] }
def k12m0 : Method := { name := "<init>", desc := "(Lcom/example/kapok/kapok/model/Token$Kind;Ljava/lang/String;)V", sig := { parameters := [(.object "com/example/kapok/kapok/model/Token$Kind"), (.object "java/lang/String")], returnType := none }, accessFlags := 0, code := some k12c0 }
def k12c1 : Code := { maxStack := 2, maxLocals := 2, code := prog_5_method_2_code, exceptionTable := #[], attributes := #[] }
def k12m1 : Method := { name := "is", desc := "(Ljava/lang/String;)Z", sig := { parameters := [(.object "java/lang/String")], returnType := some .boolean }, accessFlags := 0, code := some k12c1 }
/-- com/example/kapok/kapok/model/Token -/
def k12 : Class := { plain "com/example/kapok/kapok/model/Token" (some 11) with
  accessFlags := 48
  interfaces := #[]
  cf := some (fileOf pool12 8 #[.nestMembers #[18]] #[{ accessFlags := 0, nameIndex := 5, descriptorIndex := 49, attributes := #[] }, { accessFlags := 0, nameIndex := 56, descriptorIndex := 57, attributes := #[] }] 48 2 #[] #[{ accessFlags := 18, nameIndex := 11, descriptorIndex := 12, attributes := #[] }, { accessFlags := 18, nameIndex := 15, descriptorIndex := 16, attributes := #[] }, { accessFlags := 24, nameIndex := 21, descriptorIndex := 52, attributes := #[] }])
  fields := #[{ name := "kind", type := (.object "com/example/kapok/kapok/model/Token$Kind"), accessFlags := 18, slot := 0, constantValue := 0 }, { name := "text", type := (.object "java/lang/String"), accessFlags := 18, slot := 1, constantValue := 0 }, { name := "END", type := (.object "com/example/kapok/kapok/model/Token"), accessFlags := 24, slot := 0, constantValue := 0 }]
  methods := #[k12m0, k12m1]
  instanceTypes := #[(.object "com/example/kapok/kapok/model/Token$Kind"), (.object "java/lang/String")]
  staticTypes := #[(.object "com/example/kapok/kapok/model/Token")]
  resolved := Array.replicate 95 none
  statics := none }

def pool13 : Array CpInfo := pool [(4, .class_ 6), (1, u "java/lang/Object"), (0, u "<init>"), (0, u "()V"), (5, .class_ 16), (1, u "java/lang/StringLatin1"), (104, u "$assertionsDisabled"), (0, u "Z"), (98, .class_ 223), (1, u "java/lang/StringLatin1$LinesSpliterator"), (57, u "equals"), (0, u "([B[B)Z"), (107, .class_ 391), (0, u "java/lang/StringLatin1$CharsSpliterator")] 3

def k13m0 : Method := { name := "<init>", desc := "()V", sig := { parameters := [], returnType := none }, accessFlags := 0, code := none }
def k13c1 : Code := { maxStack := 3, maxLocals := 3, code := jdk_43_method_13_code, exceptionTable := #[], attributes := #[] }
def k13m1 : Method := { name := "equals", desc := "([B[B)Z", sig := { parameters := [(.array .byte), (.array .byte)], returnType := some .boolean }, accessFlags := 9, code := some k13c1 }
/-- java/lang/StringLatin1 -/
def k13 : Class := { plain "java/lang/StringLatin1" (some 0) with
  accessFlags := 48
  interfaces := #[]
  cf := some (fileOf pool13 14 #[.nestMembers #[390, 221]] #[{ accessFlags := 0, nameIndex := 7, descriptorIndex := 8, attributes := #[] }, { accessFlags := 9, nameIndex := 281, descriptorIndex := 282, attributes := #[] }] 48 4 #[] #[{ accessFlags := 4120, nameIndex := 121, descriptorIndex := 122, attributes := #[] }])
  fields := #[{ name := "$assertionsDisabled", type := .boolean, accessFlags := 4120, slot := 0, constantValue := 0 }]
  methods := #[k13m0, k13m1]
  instanceTypes := #[]
  staticTypes := #[.boolean]
  resolved := Array.replicate 395 none
  statics := none }

def pool14 : Array CpInfo := pool [(2, .class_ 4), (1, u "java/lang/Object"), (0, u "<init>"), (0, u "()V"), (17, .class_ 26), (1, u "jdk/internal/util/Preconditions"), (28, .class_ 56), (0, u "jdk/internal/util/Preconditions$4"), (57, .class_ 115), (0, u "jdk/internal/util/Preconditions$1"), (7, u "SIOOBE_FORMATTER"), (0, u "Ljava/util/function/BiFunction;"), (0, .class_ 126), (0, u "jdk/internal/util/Preconditions$2"), (3, u "AIOOBE_FORMATTER"), (0, .class_ 132), (0, u "jdk/internal/util/Preconditions$3"), (3, u "IOOBE_FORMATTER")] 57

def k14m0 : Method := { name := "<init>", desc := "()V", sig := { parameters := [], returnType := none }, accessFlags := 1, code := none }
/-- jdk/internal/util/Preconditions -/
def k14 : Class := { plain "jdk/internal/util/Preconditions" (some 0) with
  accessFlags := 33
  interfaces := #[]
  cf := some (fileOf pool14 24 #[.nestMembers #[55, 131, 125, 114]] #[{ accessFlags := 1, nameIndex := 5, descriptorIndex := 6, attributes := #[] }] 33 2 #[] #[{ accessFlags := 25, nameIndex := 123, descriptorIndex := 124, attributes := #[] }, { accessFlags := 25, nameIndex := 130, descriptorIndex := 124, attributes := #[] }, { accessFlags := 25, nameIndex := 136, descriptorIndex := 124, attributes := #[] }])
  fields := #[{ name := "SIOOBE_FORMATTER", type := (.object "java/util/function/BiFunction"), accessFlags := 25, slot := 0, constantValue := 0 }, { name := "AIOOBE_FORMATTER", type := (.object "java/util/function/BiFunction"), accessFlags := 25, slot := 1, constantValue := 0 }, { name := "IOOBE_FORMATTER", type := (.object "java/util/function/BiFunction"), accessFlags := 25, slot := 2, constantValue := 0 }]
  methods := #[k14m0]
  instanceTypes := #[]
  staticTypes := #[(.object "java/util/function/BiFunction"), (.object "java/util/function/BiFunction"), (.object "java/util/function/BiFunction")]
  resolved := Array.replicate 194 none
  statics := some 2 }

def pool15 : Array CpInfo := pool [(9, u "<init>"), (6, .class_ 18), (1, u "java/lang/Object"), (0, u "()V"), (1, .class_ 23), (1, u "jdk/internal/util/ArraysSupport"), (0, u "LOG2_ARRAY_LONG_INDEX_SCALE"), (0, u "I"), (2, u "U"), (0, u "Ljdk/internal/misc/Unsafe;"), (8, u "BIG_ENDIAN"), (0, u "Z"), (8, u "LOG2_BYTE_BIT_SIZE"), (4, u "LOG2_ARRAY_INT_INDEX_SCALE"), (54, u "JLA"), (0, u "Ljdk/internal/access/JavaLangAccess;"), (11, u "LOG2_ARRAY_BOOLEAN_INDEX_SCALE"), (9, u "LOG2_ARRAY_BYTE_INDEX_SCALE"), (5, u "LOG2_ARRAY_CHAR_INDEX_SCALE"), (5, u "LOG2_ARRAY_SHORT_INDEX_SCALE"), (18, u "LOG2_ARRAY_FLOAT_INDEX_SCALE"), (24, u "LOG2_ARRAY_DOUBLE_INDEX_SCALE"), (89, u "T_BOOLEAN"), (2, u "T_CHAR"), (1, u "T_FLOAT"), (1, u "T_DOUBLE"), (1, u "T_BYTE"), (1, u "T_SHORT"), (1, u "T_INT"), (1, u "T_LONG"), (1, u "SOFT_MAX_ARRAY_LENGTH")] 83

def k15m0 : Method := { name := "<init>", desc := "()V", sig := { parameters := [], returnType := none }, accessFlags := 2, code := none }
/-- jdk/internal/util/ArraysSupport -/
def k15 : Class := { plain "jdk/internal/util/ArraysSupport" (some 0) with
  accessFlags := 33
  interfaces := #[]
  cf := some (fileOf pool15 21 #[] #[{ accessFlags := 2, nameIndex := 9, descriptorIndex := 19, attributes := #[] }] 33 16 #[] #[{ accessFlags := 24, nameIndex := 28, descriptorIndex := 29, attributes := #[] }, { accessFlags := 26, nameIndex := 38, descriptorIndex := 39, attributes := #[] }, { accessFlags := 25, nameIndex := 121, descriptorIndex := 25, attributes := #[] }, { accessFlags := 25, nameIndex := 131, descriptorIndex := 25, attributes := #[] }, { accessFlags := 25, nameIndex := 137, descriptorIndex := 25, attributes := #[] }, { accessFlags := 25, nameIndex := 143, descriptorIndex := 25, attributes := #[] }, { accessFlags := 25, nameIndex := 53, descriptorIndex := 25, attributes := #[] }, { accessFlags := 25, nameIndex := 24, descriptorIndex := 25, attributes := #[] }, { accessFlags := 25, nameIndex := 162, descriptorIndex := 25, attributes := #[] }, { accessFlags := 25, nameIndex := 187, descriptorIndex := 25, attributes := #[] }, { accessFlags := 26, nameIndex := 48, descriptorIndex := 25, attributes := #[] }, { accessFlags := 25, nameIndex := 277, descriptorIndex := 25, attributes := #[] }, { accessFlags := 25, nameIndex := 280, descriptorIndex := 25, attributes := #[] }, { accessFlags := 25, nameIndex := 282, descriptorIndex := 25, attributes := #[] }, { accessFlags := 25, nameIndex := 284, descriptorIndex := 25, attributes := #[] }, { accessFlags := 25, nameIndex := 286, descriptorIndex := 25, attributes := #[] }, { accessFlags := 25, nameIndex := 288, descriptorIndex := 25, attributes := #[] }, { accessFlags := 25, nameIndex := 290, descriptorIndex := 25, attributes := #[] }, { accessFlags := 25, nameIndex := 292, descriptorIndex := 25, attributes := #[] }, { accessFlags := 26, nameIndex := 108, descriptorIndex := 109, attributes := #[] }, { accessFlags := 25, nameIndex := 294, descriptorIndex := 25, attributes := #[] }])
  fields := #[{ name := "U", type := (.object "jdk/internal/misc/Unsafe"), accessFlags := 24, slot := 0, constantValue := 0 }, { name := "BIG_ENDIAN", type := .boolean, accessFlags := 26, slot := 1, constantValue := 0 }, { name := "LOG2_ARRAY_BOOLEAN_INDEX_SCALE", type := .int, accessFlags := 25, slot := 2, constantValue := 0 }, { name := "LOG2_ARRAY_BYTE_INDEX_SCALE", type := .int, accessFlags := 25, slot := 3, constantValue := 0 }, { name := "LOG2_ARRAY_CHAR_INDEX_SCALE", type := .int, accessFlags := 25, slot := 4, constantValue := 0 }, { name := "LOG2_ARRAY_SHORT_INDEX_SCALE", type := .int, accessFlags := 25, slot := 5, constantValue := 0 }, { name := "LOG2_ARRAY_INT_INDEX_SCALE", type := .int, accessFlags := 25, slot := 6, constantValue := 0 }, { name := "LOG2_ARRAY_LONG_INDEX_SCALE", type := .int, accessFlags := 25, slot := 7, constantValue := 0 }, { name := "LOG2_ARRAY_FLOAT_INDEX_SCALE", type := .int, accessFlags := 25, slot := 8, constantValue := 0 }, { name := "LOG2_ARRAY_DOUBLE_INDEX_SCALE", type := .int, accessFlags := 25, slot := 9, constantValue := 0 }, { name := "LOG2_BYTE_BIT_SIZE", type := .int, accessFlags := 26, slot := 10, constantValue := 0 }, { name := "T_BOOLEAN", type := .int, accessFlags := 25, slot := 11, constantValue := 0 }, { name := "T_CHAR", type := .int, accessFlags := 25, slot := 12, constantValue := 0 }, { name := "T_FLOAT", type := .int, accessFlags := 25, slot := 13, constantValue := 0 }, { name := "T_DOUBLE", type := .int, accessFlags := 25, slot := 14, constantValue := 0 }, { name := "T_BYTE", type := .int, accessFlags := 25, slot := 15, constantValue := 0 }, { name := "T_SHORT", type := .int, accessFlags := 25, slot := 16, constantValue := 0 }, { name := "T_INT", type := .int, accessFlags := 25, slot := 17, constantValue := 0 }, { name := "T_LONG", type := .int, accessFlags := 25, slot := 18, constantValue := 0 }, { name := "JLA", type := (.object "jdk/internal/access/JavaLangAccess"), accessFlags := 26, slot := 19, constantValue := 0 }, { name := "SOFT_MAX_ARRAY_LENGTH", type := .int, accessFlags := 25, slot := 20, constantValue := 0 }]
  methods := #[k15m0]
  instanceTypes := #[]
  staticTypes := #[(.object "jdk/internal/misc/Unsafe"), .boolean, .int, .int, .int, .int, .int, .int, .int, .int, .int, .int, .int, .int, .int, .int, .int, .int, .int, (.object "jdk/internal/access/JavaLangAccess"), .int]
  resolved := Array.replicate 378 none
  statics := none }

def pool16 : Array CpInfo := pool [(1, u "java/lang/Cloneable"), (0, .class_ 1), (0, u "java/lang/Object"), (0, .class_ 3)] 3

/-- java/lang/Cloneable -/
def k16 : Class := { plain "java/lang/Cloneable" (some 0) with
  accessFlags := 1537
  interfaces := #[]
  cf := some (fileOf pool16 2 #[] #[] 1537 4 #[] #[])
  fields := #[]
  methods := #[]
  instanceTypes := #[]
  staticTypes := #[]
  resolved := Array.replicate 8 none
  statics := none }

/-- the primitive byte -/
def k17 : Class := { plain "byte" none with kind := .primitive 'B', accessFlags := 0x411 }
/-- [B -/
def k18 : Class := { plain "[B" (some 0) with kind := .array 17 .byte, interfaces := #[16, 4], accessFlags := 1041 }

/-- the primitive char -/
def k19 : Class := { plain "char" none with kind := .primitive 'C', accessFlags := 0x411 }
/-- [C -/
def k20 : Class := { plain "[C" (some 0) with kind := .array 19 .char, interfaces := #[16, 4], accessFlags := 1041 }

/-- the primitive int -/
def k21 : Class := { plain "int" none with kind := .primitive 'I', accessFlags := 0x411 }
/-- [I -/
def k22 : Class := { plain "[I" (some 0) with kind := .array 21 .int, interfaces := #[16, 4], accessFlags := 1041 }

def heap : Heap := #[{ cls := 6, slots := #[.ref 3, .ref 4, .ref 5, .ref 6, .null], vm := .statics 6 },
  { cls := 9, slots := #[.long 0, .int 1, .null, .int 0, .null, .int 0, .int 0], vm := .statics 9 },
  { cls := 14, slots := #[.null, .null, .null], vm := .statics 14 },
  { cls := 6, slots := #[.null, .int 0, .int 0], vm := .none },
  { cls := 6, slots := #[.null, .int 1, .int 0], vm := .none },
  { cls := 6, slots := #[.null, .int 2, .int 0], vm := .none },
  { cls := 6, slots := #[.null, .int 3, .int 0], vm := .none }]
def classes : Array Class := #[k0, k1, k2, k3, k4, k5, k6, k7, k8, k9, k10, k11, k12, k13, k14, k15, k16, k17, k18, k19, k20, k21, k22]
def interned : List (Array UInt16 × Addr) := []
def slotsUsed : Nat := 27
def theMethod : MethodId := ⟨1, 2⟩
def args0 : Array Value := #[.int 5, .int 7, .int 9, .int 1]
def aboutOver (below : List Frame) : State where
  vm := { classes := classes, interned := interned.toArray }
  heap := heap
  slotsUsed := slotsUsed
  threads := #[{ frames := .invoking theMethod args0 :: below }]
def below0 : List Frame := [.native { method := ⟨0, 0⟩, args := #[] }]
def about1 : State := aboutOver below0
def p0 : Program := .bare "" "" ""
def e0 : Env := launch0.env 0 0 0
theorem w_frames : about1.frames = Frame.invoking theMethod args0 :: below0 := rfl
set_option maxRecDepth 65536 in
theorem w_args : argsFit about1.vm theMethod args0 = true := by decide +kernel
set_option maxRecDepth 65536 in
theorem w_heap : heapFits about1 = true := by decide +kernel
set_option maxRecDepth 65536 in
theorem w_runnable : about1.curStatus? = some .runnable := by decide +kernel
set_option maxRecDepth 65536 in
theorem w_alone : about1.alone = true := by decide +kernel
set_option maxRecDepth 65536 in
theorem w_named : about1.methodNamed? x = some theMethod := by decide +kernel
set_option maxRecDepth 65536 in
theorem w_hears : about1.hears theMethod below0 = true := by decide +kernel
set_option maxRecDepth 65536 in
theorem w_ripe : about1.ripe theMethod args0 below0 = true := by decide +kernel
theorem w_running : about1.status = .running := rfl
set_option maxRecDepth 65536 in
theorem w_room : about1.hasRoom e0.platform room_1 = true :=
  launch0.hasRoom_least _ room_1 (by decide +kernel) (by decide +kernel) (by decide +kernel) (by decide +kernel) (by decide +kernel) (by decide +kernel)
theorem allAtoms_all (ts : List Jvm.Cond) (a : Array Jvm.Value) (st : Jvm.State) : (allAtoms ts).before a st = ts.all (fun c => c.before a st) := by
  induction ts with
  | nil => rfl
  | cons c t ih =>
    show (Jvm.Cond.and c (allAtoms t)).before a st = _
    rw [Jvm.Cond.before_and, ih, List.all_cons]
def words1 : List Jvm.Cond := Jvm.Cond.code x code maxLocals ret :: tables_1
/-- a 'code' word, met by the world's own term for the bytes: nothing is compared byte by byte -/
theorem code_word {y : MethodName} {bytes : ByteArray} {mx : Nat} {rt : Option FieldType} {a : Array Value} {s : State} {m : MethodId} {meth : Method} {c : Code} (h1 : s.methodNamed? y = some m) (h2 : s.vm.method? m = some meth) (h3 : meth.code = some c) (h4 : c.code = bytes)
    (h5 : (c.maxLocals == mx && c.exceptionTable.isEmpty && decide (c.maxStack ≤ mostOperands) && decide (meth.sig.returnType = rt) && !meth.locks && decide (parseMethodDescriptor y.desc = some meth.sig)) = true) : (Jvm.Cond.code y bytes mx rt).before a s = true := by
  simp only [Bool.and_eq_true, beq_iff_eq, Bool.not_eq_true', decide_eq_true_eq] at h5
  obtain ⟨⟨⟨⟨⟨g1, g2⟩, g3⟩, g4⟩, g5⟩, g6⟩ := h5
  simp [Cond.before, Cond.holds, Cond.value, h1, h2, h3, h4, g1, g2, g3, g4, g5, g6]
def isCode : Jvm.Cond → Bool
  | .code _ _ _ _ => true
  | _ => false
theorem all_split {L : List Jvm.Cond} {P : Jvm.Cond → Bool} (h1 : L.all (fun c => isCode c || P c) = true) (h2 : ∀ c ∈ L.filter isCode, P c = true) : L.all P = true := by
  refine List.all_eq_true.mpr fun c hc => ?_
  have h := List.all_eq_true.mp h1 c hc
  rcases Bool.eq_false_or_eq_true (isCode c) with hi | hi
  · exact h2 c (List.mem_filter.mpr ⟨hc, hi⟩)
  · simpa [hi] using h
set_option maxRecDepth 65536 in
theorem w_c0 : (Jvm.Cond.code x code maxLocals ret).before args0 about1 = true := code_word (m := ⟨1, 2⟩) (meth := k1m2) (c := k1c2) (by decide +kernel) rfl rfl rfl (by decide +kernel)
set_option maxRecDepth 65536 in
theorem w_c1 : (Jvm.Cond.code ({ cls := "com/example/kapok/kapok/model/TokenIsPinLaw", name := "mk", desc := "(ICC)Ljava/lang/String;" } : Jvm.MethodName) method_2_code (3 : Nat) (Option.some (Jvm.ClassFile.FieldType.object "java/lang/String"))).before args0 about1 = true := code_word (m := ⟨1, 1⟩) (meth := k1m1) (c := k1c1) (by decide +kernel) rfl rfl rfl (by decide +kernel)
set_option maxRecDepth 65536 in
theorem w_c2 : (Jvm.Cond.code ({ cls := "java/lang/String", name := "<init>", desc := "([C)V" } : Jvm.MethodName) jdk_42_method_3_code (2 : Nat) (Option.none : Option Jvm.ClassFile.FieldType)).before args0 about1 = true := code_word (m := ⟨9, 1⟩) (meth := k9m1) (c := k9c1) (by decide +kernel) rfl rfl rfl (by decide +kernel)
set_option maxRecDepth 65536 in
theorem w_c3 : (Jvm.Cond.code ({ cls := "java/lang/String", name := "<init>", desc := "([CIILjava/lang/Void;)V" } : Jvm.MethodName) jdk_42_method_149_code (6 : Nat) (Option.none : Option Jvm.ClassFile.FieldType)).before args0 about1 = true := code_word (m := ⟨9, 3⟩) (meth := k9m3) (c := k9c3) (by decide +kernel) rfl rfl rfl (by decide +kernel)
set_option maxRecDepth 65536 in
theorem w_c4 : (Jvm.Cond.code ({ cls := "java/lang/Object", name := "<init>", desc := "()V" } : Jvm.MethodName) object_method_1_code (1 : Nat) (Option.none : Option Jvm.ClassFile.FieldType)).before args0 about1 = true := code_word (m := ⟨0, 0⟩) (meth := k0m0) (c := k0c0) (by decide +kernel) rfl rfl rfl (by decide +kernel)
set_option maxRecDepth 65536 in
theorem w_c5 : (Jvm.Cond.code ({ cls := "java/lang/StringUTF16", name := "compress", desc := "([CII)[B" } : Jvm.MethodName) jdk_52_method_16_code (6 : Nat) (Option.some (Jvm.ClassFile.FieldType.array Jvm.ClassFile.FieldType.byte))).before args0 about1 = true := code_word (m := ⟨10, 2⟩) (meth := k10m2) (c := k10c2) (by decide +kernel) rfl rfl rfl (by decide +kernel)
set_option maxRecDepth 65536 in
theorem w_c6 : (Jvm.Cond.code ({ cls := "java/lang/StringUTF16", name := "compress", desc := "([CI[BII)I" } : Jvm.MethodName) jdk_52_method_21_code (7 : Nat) (Option.some Jvm.ClassFile.FieldType.int)).before args0 about1 = true := code_word (m := ⟨10, 3⟩) (meth := k10m3) (c := k10c3) (by decide +kernel) rfl rfl rfl (by decide +kernel)
set_option maxRecDepth 65536 in
theorem w_c7 : (Jvm.Cond.code ({ cls := "java/lang/StringUTF16", name := "coderFromArrayLen", desc := "([BI)B" } : Jvm.MethodName) jdk_52_method_15_code (2 : Nat) (Option.some Jvm.ClassFile.FieldType.byte)).before args0 about1 = true := code_word (m := ⟨10, 1⟩) (meth := k10m1) (c := k10c1) (by decide +kernel) rfl rfl rfl (by decide +kernel)
set_option maxRecDepth 65536 in
theorem w_c8 : (Jvm.Cond.code ({ cls := "com/example/kapok/kapok/model/Token", name := "<init>", desc := "(Lcom/example/kapok/kapok/model/Token$Kind;Ljava/lang/String;)V" } : Jvm.MethodName) prog_5_method_1_code (3 : Nat) (Option.none : Option Jvm.ClassFile.FieldType)).before args0 about1 = true := code_word (m := ⟨12, 0⟩) (meth := k12m0) (c := k12c0) (by decide +kernel) rfl rfl rfl (by decide +kernel)
set_option maxRecDepth 65536 in
theorem w_c9 : (Jvm.Cond.code ({ cls := "java/lang/Record", name := "<init>", desc := "()V" } : Jvm.MethodName) jdk_30_method_1_code (1 : Nat) (Option.none : Option Jvm.ClassFile.FieldType)).before args0 about1 = true := code_word (m := ⟨11, 0⟩) (meth := k11m0) (c := k11c0) (by decide +kernel) rfl rfl rfl (by decide +kernel)
set_option maxRecDepth 65536 in
theorem w_c10 : (Jvm.Cond.code ({ cls := "com/example/kapok/kapok/model/Token", name := "is", desc := "(Ljava/lang/String;)Z" } : Jvm.MethodName) prog_5_method_2_code (2 : Nat) (Option.some Jvm.ClassFile.FieldType.boolean)).before args0 about1 = true := code_word (m := ⟨12, 1⟩) (meth := k12m1) (c := k12c1) (by decide +kernel) rfl rfl rfl (by decide +kernel)
set_option maxRecDepth 65536 in
theorem w_c11 : (Jvm.Cond.code ({ cls := "java/lang/String", name := "equals", desc := "(Ljava/lang/Object;)Z" } : Jvm.MethodName) jdk_42_method_66_code (3 : Nat) (Option.some Jvm.ClassFile.FieldType.boolean)).before args0 about1 = true := code_word (m := ⟨9, 2⟩) (meth := k9m2) (c := k9c2) (by decide +kernel) rfl rfl rfl (by decide +kernel)
set_option maxRecDepth 65536 in
theorem w_c12 : (Jvm.Cond.code ({ cls := "java/lang/StringLatin1", name := "equals", desc := "([B[B)Z" } : Jvm.MethodName) jdk_43_method_13_code (3 : Nat) (Option.some Jvm.ClassFile.FieldType.boolean)).before args0 about1 = true := code_word (m := ⟨13, 1⟩) (meth := k13m1) (c := k13c1) (by decide +kernel) rfl rfl rfl (by decide +kernel)
def codes1 : List Jvm.Cond := [Jvm.Cond.code x code maxLocals ret, Jvm.Cond.code ({ cls := "com/example/kapok/kapok/model/TokenIsPinLaw", name := "mk", desc := "(ICC)Ljava/lang/String;" } : Jvm.MethodName) method_2_code (3 : Nat) (Option.some (Jvm.ClassFile.FieldType.object "java/lang/String")), Jvm.Cond.code ({ cls := "java/lang/String", name := "<init>", desc := "([C)V" } : Jvm.MethodName) jdk_42_method_3_code (2 : Nat) (Option.none : Option Jvm.ClassFile.FieldType), Jvm.Cond.code ({ cls := "java/lang/String", name := "<init>", desc := "([CIILjava/lang/Void;)V" } : Jvm.MethodName) jdk_42_method_149_code (6 : Nat) (Option.none : Option Jvm.ClassFile.FieldType), Jvm.Cond.code ({ cls := "java/lang/Object", name := "<init>", desc := "()V" } : Jvm.MethodName) object_method_1_code (1 : Nat) (Option.none : Option Jvm.ClassFile.FieldType), Jvm.Cond.code ({ cls := "java/lang/StringUTF16", name := "compress", desc := "([CII)[B" } : Jvm.MethodName) jdk_52_method_16_code (6 : Nat) (Option.some (Jvm.ClassFile.FieldType.array Jvm.ClassFile.FieldType.byte)), Jvm.Cond.code ({ cls := "java/lang/StringUTF16", name := "compress", desc := "([CI[BII)I" } : Jvm.MethodName) jdk_52_method_21_code (7 : Nat) (Option.some Jvm.ClassFile.FieldType.int), Jvm.Cond.code ({ cls := "java/lang/StringUTF16", name := "coderFromArrayLen", desc := "([BI)B" } : Jvm.MethodName) jdk_52_method_15_code (2 : Nat) (Option.some Jvm.ClassFile.FieldType.byte), Jvm.Cond.code ({ cls := "com/example/kapok/kapok/model/Token", name := "<init>", desc := "(Lcom/example/kapok/kapok/model/Token$Kind;Ljava/lang/String;)V" } : Jvm.MethodName) prog_5_method_1_code (3 : Nat) (Option.none : Option Jvm.ClassFile.FieldType), Jvm.Cond.code ({ cls := "java/lang/Record", name := "<init>", desc := "()V" } : Jvm.MethodName) jdk_30_method_1_code (1 : Nat) (Option.none : Option Jvm.ClassFile.FieldType), Jvm.Cond.code ({ cls := "com/example/kapok/kapok/model/Token", name := "is", desc := "(Ljava/lang/String;)Z" } : Jvm.MethodName) prog_5_method_2_code (2 : Nat) (Option.some Jvm.ClassFile.FieldType.boolean), Jvm.Cond.code ({ cls := "java/lang/String", name := "equals", desc := "(Ljava/lang/Object;)Z" } : Jvm.MethodName) jdk_42_method_66_code (3 : Nat) (Option.some Jvm.ClassFile.FieldType.boolean), Jvm.Cond.code ({ cls := "java/lang/StringLatin1", name := "equals", desc := "([B[B)Z" } : Jvm.MethodName) jdk_43_method_13_code (3 : Nat) (Option.some Jvm.ClassFile.FieldType.boolean)]
set_option maxRecDepth 65536 in
theorem codes_eq : words1.filter isCode = codes1 := rfl
theorem w_codes : ∀ c ∈ words1.filter isCode, c.before args0 about1 = true := by
  rw [codes_eq]
  intro c hc
  simp only [codes1, List.mem_cons, List.not_mem_nil, or_false] at hc
  rcases hc with rfl | rfl | rfl | rfl | rfl | rfl | rfl | rfl | rfl | rfl | rfl | rfl | rfl
  · exact w_c0
  · exact w_c1
  · exact w_c2
  · exact w_c3
  · exact w_c4
  · exact w_c5
  · exact w_c6
  · exact w_c7
  · exact w_c8
  · exact w_c9
  · exact w_c10
  · exact w_c11
  · exact w_c12
set_option maxRecDepth 65536 in
theorem w_t1 : (words1.take 24).all (fun c => isCode c || c.before args0 about1) = true := by decide +kernel
set_option maxRecDepth 65536 in
theorem w_t2 : ((words1.drop 24).take 24).all (fun c => isCode c || c.before args0 about1) = true := by decide +kernel
set_option maxRecDepth 65536 in
theorem w_t3 : (((words1.drop 24).drop 24).take 24).all (fun c => isCode c || c.before args0 about1) = true := by decide +kernel
set_option maxRecDepth 65536 in
theorem w_t4 : (((words1.drop 24).drop 24).drop 24).all (fun c => isCode c || c.before args0 about1) = true := by decide +kernel
theorem w_tables : (allAtoms (Jvm.Cond.code x code maxLocals ret :: tables_1)).before args0 about1 = true := by
  rw [allAtoms_all]
  show words1.all (fun c => c.before args0 about1) = true
  refine all_split ?_ w_codes
  rw [← List.take_append_drop 24 words1, List.all_append, w_t1, ← List.take_append_drop 24 (words1.drop 24), List.all_append, w_t2, ← List.take_append_drop 24 ((words1.drop 24).drop 24), List.all_append, w_t3, w_t4]
  rfl
set_option maxRecDepth 65536 in
theorem w_rest : rest_1_c.before args0 about1 = true := by decide +kernel
set_option maxRecDepth 65536 in
theorem w_case : (Jvm.Cond.and given_1 narrow_1).before args0 about1 = true := by decide +kernel
set_option maxRecDepth 65536 in
theorem w_consts : constsHeld consts_1 about1 := Jvm.Lit.constsHeldB_iff.mp (by decide +kernel)
theorem w_applies : (headSpec (Jvm.Cond.code x code maxLocals ret :: tables_1) room_1).applies x e0.platform about1 = true :=
  (Spec.applies_iff w_frames).mpr ⟨w_running, w_runnable, w_alone, w_named, w_hears, w_ripe, w_room, w_tables⟩
theorem atStart : AtStart classFile x code maxLocals ret World_1 tables_1 room_1 Calls_1 rest_1 Pre_1 launch0 p0 e0 about1 theMethod args0 below0 :=
  ⟨lists_1, trivial, launch0.admits_env _ _ _, launch0.least_env, fairChoices_fair.cas, fairChoices_fair.clock, w_frames, w_args, w_heap, w_applies, ⟨w_consts, trivial⟩, w_rest, w_case⟩
end start1
theorem witness_1 : WitnessClaimed_1 := ⟨start1.p0, start1.e0, start1.about1, start1.theMethod, start1.args0, start1.below0, start1.atStart⟩
end Jvm.Pilot.@@N@@
